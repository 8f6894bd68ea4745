/- FnBdBytes: UnmarshalBinary. For every board, and 96 bytes that are the bytes of twelve numbers. -/
import Derived.Test.YtplkcmlpomjojaaGreatDoorBe
import Derived.Test.YtplkcmlpomjojaaGreatDoorOw
namespace Go.Proofs.YtplkcmlpomjojaaGreatDoor
open Go Go.RowKit
set_option maxHeartbeats 8000000
set_option linter.unusedSimpArgs false
set_option linter.unusedVariables false
set_option maxRecDepth 100000

def mix (F G : Nat → BitVec 64) (k : Nat) : Nat → BitVec 64 := fun j => if j < k then F j else G j
theorem mix_zero (F G : Nat → BitVec 64) : mix F G 0 = G := by funext j; simp [mix]
theorem mix_step (F G : Nat → BitVec 64) (k : Nat) : (fun j => if j = k then F k else mix F G k j) = mix F G (k + 1) := by
  funext j
  unfold mix
  by_cases e : j = k
  · subst e; simp
  · by_cases c : j < k
    · rw [if_neg e, if_pos c, if_pos (by omega)]
    · rw [if_neg e, if_neg c, if_neg (by omega)]
theorem mix_all (F G : Nat → BitVec 64) (a b c d e : Value) : brdF (mix F G 12) a b c d e = brdF F a b c d e := rfl
/-- What was there, but for block g, is as it was. -/
def Most (g : Nat) (w w' : World) : Prop := (∀ k, k ≠ g → k < w.heap.size → w'.heap[k]? = w.heap[k]?) ∧ w.heap.size ≤ w'.heap.size ∧ ∀ B a, B ≤ g → B ≤ w.heap.size → Below B a w → Below B a w'
theorem Most.refl (g : Nat) (w : World) : Most g w w := ⟨fun _ _ _ => rfl, Nat.le_refl _, fun _ _ _ _ h => h⟩
theorem Most.trans {g : Nat} {w w1 w2 : World} (h : Most g w w1) (h2 : Most g w1 w2) : Most g w w2 :=
  ⟨fun k hk hl => (h2.1 k hk (Nat.lt_of_lt_of_le hl h.2.1)).trans (h.1 k hk hl), Nat.le_trans h.2.1 h2.2.1, fun B a hB hs hb => h2.2.2 B a hB (Nat.le_trans hs h.2.1) (h.2.2 B a hB hs hb)⟩
theorem Most.below {g : Nat} {w w1 : World} (h : Below w.heap.size w w1) : Most g w w1 := ⟨fun k _ hl => h.block k hl, h.size, fun B a hB hs hb => hb.trans (h.mono hs)⟩
theorem Most.setCell (g : Nat) (w : World) (i : Nat) (v : Value) : Most g w (w.setCell ⟨g, i, none⟩ v) :=
  ⟨fun k hk _ => heap_setCell_other w ⟨g, i, none⟩ k v hk, by simp, fun B a hB _ hb => hb.setCell (p := ⟨g, i, none⟩) hB v⟩
theorem Most.only {g : Nat} {w w1 : World} (h : Only g w w1) (hs : w.heap.size ≤ w1.heap.size) : Most g w w1 := ⟨fun k hk _ => h.1 k hk, hs, fun B a hB _ hb => h.2 B a hB hb⟩
/-- The 96 bytes of twelve numbers lie in block q. -/
def Lies (F : Nat → BitVec 64) (q : Nat) (w : World) : Prop := ∀ k, k < 12 → ∀ j, j < 8 → w.cell? ⟨q, 8 * k + j, none⟩ = some (.int .u8 (byteOf (F k) j))
theorem Lies.most {F : Nat → BitVec 64} {q g : Nat} {w w1 : World} (h : Lies F q w) (hq : q ≠ g) (hm : Most g w w1) : Lies F q w1 := fun k hk j hj => by
  have hc := h k hk j hj
  exact (World.cell?_of_block (a := ⟨q, 8 * k + j, none⟩) (hm.1 q hq (lt_of_cell hc))).trans hc

theorem only_size {g : Nat} {w w1 : World} {o : Obj} (h : Only g w w1) (hg : w1.heap[g]? = some o) : w.heap.size ≤ w1.heap.size := by
  by_cases hz : w.heap.size = 0
  · omega
  by_cases e : w.heap.size - 1 = g
  · have := (Array.getElem?_eq_some_iff.1 hg).1
    omega
  · have h1 := h.1 (w.heap.size - 1) e
    rw [Array.getElem?_eq_getElem (show w.heap.size - 1 < w.heap.size by omega)] at h1
    have := (Array.getElem?_eq_some_iff.1 h1).1
    omega
theorem bg_read (p : List Int) (G : Nat → BitVec 64) (a b c d e : Value) (ha : a.oneCell' = true) (g q cap : Nat) (w : World) (hg : w.heap[g]? = some (.cells (brdF G a b c d e) 125 (0, 0))) (hq : q ≠ g) (hcap : 96 ≤ cap)
    (hby : Lies (bbF p) q w) :
    Calls Tryz.prog 85 #[.pointer (some ⟨g, 0, none⟩), .slice (some ⟨q, 0, none⟩) 96 cap] w fun e' w' => e' = .returned .nilIface ∧ w'.heap[g]? = some (.cells (brd p) 125 (0, 0)) ∧ Most g w w' := by
  generalize hF : bbF p = F at *
  have hcapI : (96 : Int) ≤ (cap : Int) := by omega
  have hgl : g < w.heap.size := (Array.getElem?_eq_some_iff.1 hg).1
  have hql : q < w.heap.size := lt_of_cell (hby 0 (by omega) 0 (by omega))
  have hM := Most.refl g w
  rw [← mix_zero F G] at hg
  go_enter Tryz.func85, Tryz.ntmps85
  go_wp2_with fail
  have hg0 : (w.drew).heap[g]? = some (.cells (brdF (mix F G 0) a b c d e) 125 (0, 0)) := hg
  refine wp_region_held_drew (S := fun w' : World => Lies F q w' ∧ Most g w w') (by kernel_rfl) ⟨hby, hM.trans (Most.below (drewN_below _ 1))⟩ (fun hHeld => ?_)
  clear hby hg hM
  refine wpAnyH_take (i := 0) (v := ?v0_0) rfl (by kernel_rfl) (by kernel_rfl) (by kernel_rfl) (fun _ _ _ h => h) (Or.inl ⟨by rfl, ?y0_0⟩) hHeld ?r0_0
  case y0_0 => (intro wq hSw; clear hSw; go_simp; try with_reducible rfl)
  try simp only [List.getElem_toArray, List.getElem_cons_zero, List.getElem_cons_succ, Act.put, List.setIfInBounds_toArray, List.set_cons_zero, List.set_cons_succ]
  refine wpAnyH_take (i := 1) (v := ?v0_1) rfl (by kernel_rfl) (by kernel_rfl) (by kernel_rfl) (fun _ _ _ h => h) (Or.inl ⟨by rfl, ?y0_1⟩) hHeld ?r0_1
  case y0_1 => (intro wq hSw; clear hSw; go_simp; try with_reducible rfl)
  try simp only [List.getElem_toArray, List.getElem_cons_zero, List.getElem_cons_succ, Act.put, List.setIfInBounds_toArray, List.set_cons_zero, List.set_cons_succ]
  refine wpAnyH_take (i := 2) (v := ?v0_2) rfl (by kernel_rfl) (by kernel_rfl) (by kernel_rfl) (fun _ _ _ h => h) (Or.inl ⟨by rfl, ?y0_2⟩) hHeld ?r0_2
  case y0_2 => (intro wq hSw; clear hSw; go_simp; try with_reducible rfl)
  try simp only [List.getElem_toArray, List.getElem_cons_zero, List.getElem_cons_succ, Act.put, List.setIfInBounds_toArray, List.set_cons_zero, List.set_cons_succ]
  refine wpAnyH_take (i := 3) (v := ?v0_3) rfl (by kernel_rfl) (by kernel_rfl) (by kernel_rfl) (fun _ _ _ h => h) (Or.inl ⟨by rfl, ?y0_3⟩) hHeld ?r0_3
  case y0_3 => (intro wq hSw; clear hSw; have hlo : (8 : Int) ≤ (cap : Int) := (by omega); have hne : ¬ cap = 0 := (by omega); go_simp; try with_reducible rfl)
  try simp only [List.getElem_toArray, List.getElem_cons_zero, List.getElem_cons_succ, Act.put, List.setIfInBounds_toArray, List.set_cons_zero, List.set_cons_succ]
  refine wpAnyH_ready (rs := [4]) (by kernel_rfl) (by simp) ?_
  refine AllReadyH.cons rfl (fun K hK => ?_) AllReadyH.nil
  try simp only [List.getElem_toArray, List.getElem_cons_zero, List.getElem_cons_succ, Act.put, List.setIfInBounds_toArray, List.set_cons_zero, List.set_cons_succ]
  rw [if_pos (by rfl)]
  go_simp
  refine (bc_uint (F 0) q 0 _ _ (fun j hj => hHeld.1 0 (by omega) j hj)).mono ?_
  rintro e1 w1 ⟨rfl, hb1⟩
  have hg1 := (hb1.block g (Array.getElem?_eq_some_iff.1 hg0).1).trans hg0
  have hS1 := And.intro (hHeld.1.most hq (Most.below hb1)) (hHeld.2.trans (Most.below hb1))
  clear hHeld hg0 hb1
  go_wp2_with fail
  refine hK.out _ _ hS1 (fun hHeld => ?_)
  clear hK K hS1
  try simp only [List.getElem_toArray, List.getElem_cons_zero, List.getElem_cons_succ, Act.put, List.setIfInBounds_toArray, List.set_cons_zero, List.set_cons_succ]
  refine wpAnyH_take (i := 5) (v := ?v0_5) rfl (by kernel_rfl) (by kernel_rfl) (by kernel_rfl) (fun _ _ _ h => h) (Or.inl ⟨by rfl, ?y0_5⟩) hHeld ?r0_5
  case y0_5 => (intro wq hSw; clear hSw; go_simp; try with_reducible rfl)
  try simp only [List.getElem_toArray, List.getElem_cons_zero, List.getElem_cons_succ, Act.put, List.setIfInBounds_toArray, List.set_cons_zero, List.set_cons_succ]
  refine wpAnyH_take (i := 6) (v := ?v0_6) rfl (by kernel_rfl) (by kernel_rfl) (by kernel_rfl) (fun _ _ _ h => h) (Or.inl ⟨by rfl, ?y0_6⟩) hHeld ?r0_6
  case y0_6 => (intro wq hSw; clear hSw; go_simp; try with_reducible rfl)
  try simp only [List.getElem_toArray, List.getElem_cons_zero, List.getElem_cons_succ, Act.put, List.setIfInBounds_toArray, List.set_cons_zero, List.set_cons_succ]
  refine wpAnyH_ready (rs := [7]) (by kernel_rfl) (by simp) ?_
  refine AllReadyH.cons rfl (fun K hK => ?_) AllReadyH.nil
  try simp only [List.getElem_toArray, List.getElem_cons_zero, List.getElem_cons_succ, Act.put, List.setIfInBounds_toArray, List.set_cons_zero, List.set_cons_succ]
  rw [if_pos (by rfl)]
  refine wp_store_one 123 _ _ rfl g 0 (bbv (F 0)) (by rfl) (by rfl) rfl rfl 125 _ hg1 (by simp [brdF]) (by kernel_rfl) ?_
  have hg' := heap_setCell_same w1 g 0 _ _ (bbv (F 0)) hg1
  rw [brdF_set _ _ _ _ _ _ 0 (by omega), mix_step] at hg'
  have hm' := Most.setCell g w1 0 (bbv (F 0))
  have hby := hHeld.1.most hq hm'
  have hM := hHeld.2.trans hm'
  clear hHeld hm' hg1
  generalize w1.setCell ⟨g, 0, none⟩ (bbv (F 0)) = W1 at *
  refine hK.out _ _ ⟨hby, hM⟩ (fun _ => ?_)
  clear hK K
  try simp only [List.getElem_toArray, List.getElem_cons_zero, List.getElem_cons_succ, Act.put, List.setIfInBounds_toArray, List.set_cons_zero, List.set_cons_succ]
  refine wpAnyH_done (by kernel_rfl) ?_ _
  have hg := hg'
  clear hg'
  go_wp2_with fail
  have hg0 : (W1.drew).heap[g]? = some (.cells (brdF (mix F G 1) a b c d e) 125 (0, 0)) := hg
  refine wp_region_held_drew (S := fun w' : World => Lies F q w' ∧ Most g w w') (by kernel_rfl) ⟨hby, hM.trans (Most.below (drewN_below _ 1))⟩ (fun hHeld => ?_)
  clear hby hg hM
  refine wpAnyH_take (i := 0) (v := ?v1_0) rfl (by kernel_rfl) (by kernel_rfl) (by kernel_rfl) (fun _ _ _ h => h) (Or.inl ⟨by rfl, ?y1_0⟩) hHeld ?r1_0
  case y1_0 => (intro wq hSw; clear hSw; go_simp; try with_reducible rfl)
  try simp only [List.getElem_toArray, List.getElem_cons_zero, List.getElem_cons_succ, Act.put, List.setIfInBounds_toArray, List.set_cons_zero, List.set_cons_succ]
  refine wpAnyH_take (i := 1) (v := ?v1_1) rfl (by kernel_rfl) (by kernel_rfl) (by kernel_rfl) (fun _ _ _ h => h) (Or.inl ⟨by rfl, ?y1_1⟩) hHeld ?r1_1
  case y1_1 => (intro wq hSw; clear hSw; go_simp; try with_reducible rfl)
  try simp only [List.getElem_toArray, List.getElem_cons_zero, List.getElem_cons_succ, Act.put, List.setIfInBounds_toArray, List.set_cons_zero, List.set_cons_succ]
  refine wpAnyH_take (i := 2) (v := ?v1_2) rfl (by kernel_rfl) (by kernel_rfl) (by kernel_rfl) (fun _ _ _ h => h) (Or.inl ⟨by rfl, ?y1_2⟩) hHeld ?r1_2
  case y1_2 => (intro wq hSw; clear hSw; go_simp; try with_reducible rfl)
  try simp only [List.getElem_toArray, List.getElem_cons_zero, List.getElem_cons_succ, Act.put, List.setIfInBounds_toArray, List.set_cons_zero, List.set_cons_succ]
  refine wpAnyH_take (i := 3) (v := ?v1_3) rfl (by kernel_rfl) (by kernel_rfl) (by kernel_rfl) (fun _ _ _ h => h) (Or.inl ⟨by rfl, ?y1_3⟩) hHeld ?r1_3
  case y1_3 => (intro wq hSw; clear hSw; have hlo : (16 : Int) ≤ (cap : Int) := (by omega); have hne : ¬ cap = 8 := (by omega); go_simp; try with_reducible rfl)
  try simp only [List.getElem_toArray, List.getElem_cons_zero, List.getElem_cons_succ, Act.put, List.setIfInBounds_toArray, List.set_cons_zero, List.set_cons_succ]
  refine wpAnyH_ready (rs := [4]) (by kernel_rfl) (by simp) ?_
  refine AllReadyH.cons rfl (fun K hK => ?_) AllReadyH.nil
  try simp only [List.getElem_toArray, List.getElem_cons_zero, List.getElem_cons_succ, Act.put, List.setIfInBounds_toArray, List.set_cons_zero, List.set_cons_succ]
  rw [if_pos (by rfl)]
  go_simp
  refine (bc_uint (F 1) q 8 _ _ (fun j hj => hHeld.1 1 (by omega) j hj)).mono ?_
  rintro e1 w1 ⟨rfl, hb1⟩
  have hg1 := (hb1.block g (Array.getElem?_eq_some_iff.1 hg0).1).trans hg0
  have hS1 := And.intro (hHeld.1.most hq (Most.below hb1)) (hHeld.2.trans (Most.below hb1))
  clear hHeld hg0 hb1
  go_wp2_with fail
  refine hK.out _ _ hS1 (fun hHeld => ?_)
  clear hK K hS1
  try simp only [List.getElem_toArray, List.getElem_cons_zero, List.getElem_cons_succ, Act.put, List.setIfInBounds_toArray, List.set_cons_zero, List.set_cons_succ]
  refine wpAnyH_take (i := 5) (v := ?v1_5) rfl (by kernel_rfl) (by kernel_rfl) (by kernel_rfl) (fun _ _ _ h => h) (Or.inl ⟨by rfl, ?y1_5⟩) hHeld ?r1_5
  case y1_5 => (intro wq hSw; clear hSw; go_simp; try with_reducible rfl)
  try simp only [List.getElem_toArray, List.getElem_cons_zero, List.getElem_cons_succ, Act.put, List.setIfInBounds_toArray, List.set_cons_zero, List.set_cons_succ]
  refine wpAnyH_take (i := 6) (v := ?v1_6) rfl (by kernel_rfl) (by kernel_rfl) (by kernel_rfl) (fun _ _ _ h => h) (Or.inl ⟨by rfl, ?y1_6⟩) hHeld ?r1_6
  case y1_6 => (intro wq hSw; clear hSw; go_simp; try with_reducible rfl)
  try simp only [List.getElem_toArray, List.getElem_cons_zero, List.getElem_cons_succ, Act.put, List.setIfInBounds_toArray, List.set_cons_zero, List.set_cons_succ]
  refine wpAnyH_ready (rs := [7]) (by kernel_rfl) (by simp) ?_
  refine AllReadyH.cons rfl (fun K hK => ?_) AllReadyH.nil
  try simp only [List.getElem_toArray, List.getElem_cons_zero, List.getElem_cons_succ, Act.put, List.setIfInBounds_toArray, List.set_cons_zero, List.set_cons_succ]
  rw [if_pos (by rfl)]
  refine wp_store_one 123 _ _ rfl g 1 (bbv (F 1)) (by rfl) (by rfl) rfl rfl 125 _ hg1 (by simp [brdF]) (by kernel_rfl) ?_
  have hg' := heap_setCell_same w1 g 1 _ _ (bbv (F 1)) hg1
  rw [brdF_set _ _ _ _ _ _ 1 (by omega), mix_step] at hg'
  have hm' := Most.setCell g w1 1 (bbv (F 1))
  have hby := hHeld.1.most hq hm'
  have hM := hHeld.2.trans hm'
  clear hHeld hm' hg1
  generalize w1.setCell ⟨g, 1, none⟩ (bbv (F 1)) = W2 at *
  refine hK.out _ _ ⟨hby, hM⟩ (fun _ => ?_)
  clear hK K
  try simp only [List.getElem_toArray, List.getElem_cons_zero, List.getElem_cons_succ, Act.put, List.setIfInBounds_toArray, List.set_cons_zero, List.set_cons_succ]
  refine wpAnyH_done (by kernel_rfl) ?_ _
  have hg := hg'
  clear hg'
  go_wp2_with fail
  have hg0 : (W2.drew).heap[g]? = some (.cells (brdF (mix F G 2) a b c d e) 125 (0, 0)) := hg
  refine wp_region_held_drew (S := fun w' : World => Lies F q w' ∧ Most g w w') (by kernel_rfl) ⟨hby, hM.trans (Most.below (drewN_below _ 1))⟩ (fun hHeld => ?_)
  clear hby hg hM
  refine wpAnyH_take (i := 0) (v := ?v2_0) rfl (by kernel_rfl) (by kernel_rfl) (by kernel_rfl) (fun _ _ _ h => h) (Or.inl ⟨by rfl, ?y2_0⟩) hHeld ?r2_0
  case y2_0 => (intro wq hSw; clear hSw; go_simp; try with_reducible rfl)
  try simp only [List.getElem_toArray, List.getElem_cons_zero, List.getElem_cons_succ, Act.put, List.setIfInBounds_toArray, List.set_cons_zero, List.set_cons_succ]
  refine wpAnyH_take (i := 1) (v := ?v2_1) rfl (by kernel_rfl) (by kernel_rfl) (by kernel_rfl) (fun _ _ _ h => h) (Or.inl ⟨by rfl, ?y2_1⟩) hHeld ?r2_1
  case y2_1 => (intro wq hSw; clear hSw; go_simp; try with_reducible rfl)
  try simp only [List.getElem_toArray, List.getElem_cons_zero, List.getElem_cons_succ, Act.put, List.setIfInBounds_toArray, List.set_cons_zero, List.set_cons_succ]
  refine wpAnyH_take (i := 2) (v := ?v2_2) rfl (by kernel_rfl) (by kernel_rfl) (by kernel_rfl) (fun _ _ _ h => h) (Or.inl ⟨by rfl, ?y2_2⟩) hHeld ?r2_2
  case y2_2 => (intro wq hSw; clear hSw; go_simp; try with_reducible rfl)
  try simp only [List.getElem_toArray, List.getElem_cons_zero, List.getElem_cons_succ, Act.put, List.setIfInBounds_toArray, List.set_cons_zero, List.set_cons_succ]
  refine wpAnyH_take (i := 3) (v := ?v2_3) rfl (by kernel_rfl) (by kernel_rfl) (by kernel_rfl) (fun _ _ _ h => h) (Or.inl ⟨by rfl, ?y2_3⟩) hHeld ?r2_3
  case y2_3 => (intro wq hSw; clear hSw; have hlo : (24 : Int) ≤ (cap : Int) := (by omega); have hne : ¬ cap = 16 := (by omega); go_simp; try with_reducible rfl)
  try simp only [List.getElem_toArray, List.getElem_cons_zero, List.getElem_cons_succ, Act.put, List.setIfInBounds_toArray, List.set_cons_zero, List.set_cons_succ]
  refine wpAnyH_ready (rs := [4]) (by kernel_rfl) (by simp) ?_
  refine AllReadyH.cons rfl (fun K hK => ?_) AllReadyH.nil
  try simp only [List.getElem_toArray, List.getElem_cons_zero, List.getElem_cons_succ, Act.put, List.setIfInBounds_toArray, List.set_cons_zero, List.set_cons_succ]
  rw [if_pos (by rfl)]
  go_simp
  refine (bc_uint (F 2) q 16 _ _ (fun j hj => hHeld.1 2 (by omega) j hj)).mono ?_
  rintro e1 w1 ⟨rfl, hb1⟩
  have hg1 := (hb1.block g (Array.getElem?_eq_some_iff.1 hg0).1).trans hg0
  have hS1 := And.intro (hHeld.1.most hq (Most.below hb1)) (hHeld.2.trans (Most.below hb1))
  clear hHeld hg0 hb1
  go_wp2_with fail
  refine hK.out _ _ hS1 (fun hHeld => ?_)
  clear hK K hS1
  try simp only [List.getElem_toArray, List.getElem_cons_zero, List.getElem_cons_succ, Act.put, List.setIfInBounds_toArray, List.set_cons_zero, List.set_cons_succ]
  refine wpAnyH_take (i := 5) (v := ?v2_5) rfl (by kernel_rfl) (by kernel_rfl) (by kernel_rfl) (fun _ _ _ h => h) (Or.inl ⟨by rfl, ?y2_5⟩) hHeld ?r2_5
  case y2_5 => (intro wq hSw; clear hSw; go_simp; try with_reducible rfl)
  try simp only [List.getElem_toArray, List.getElem_cons_zero, List.getElem_cons_succ, Act.put, List.setIfInBounds_toArray, List.set_cons_zero, List.set_cons_succ]
  refine wpAnyH_take (i := 6) (v := ?v2_6) rfl (by kernel_rfl) (by kernel_rfl) (by kernel_rfl) (fun _ _ _ h => h) (Or.inl ⟨by rfl, ?y2_6⟩) hHeld ?r2_6
  case y2_6 => (intro wq hSw; clear hSw; go_simp; try with_reducible rfl)
  try simp only [List.getElem_toArray, List.getElem_cons_zero, List.getElem_cons_succ, Act.put, List.setIfInBounds_toArray, List.set_cons_zero, List.set_cons_succ]
  refine wpAnyH_ready (rs := [7]) (by kernel_rfl) (by simp) ?_
  refine AllReadyH.cons rfl (fun K hK => ?_) AllReadyH.nil
  try simp only [List.getElem_toArray, List.getElem_cons_zero, List.getElem_cons_succ, Act.put, List.setIfInBounds_toArray, List.set_cons_zero, List.set_cons_succ]
  rw [if_pos (by rfl)]
  refine wp_store_one 123 _ _ rfl g 2 (bbv (F 2)) (by rfl) (by rfl) rfl rfl 125 _ hg1 (by simp [brdF]) (by kernel_rfl) ?_
  have hg' := heap_setCell_same w1 g 2 _ _ (bbv (F 2)) hg1
  rw [brdF_set _ _ _ _ _ _ 2 (by omega), mix_step] at hg'
  have hm' := Most.setCell g w1 2 (bbv (F 2))
  have hby := hHeld.1.most hq hm'
  have hM := hHeld.2.trans hm'
  clear hHeld hm' hg1
  generalize w1.setCell ⟨g, 2, none⟩ (bbv (F 2)) = W3 at *
  refine hK.out _ _ ⟨hby, hM⟩ (fun _ => ?_)
  clear hK K
  try simp only [List.getElem_toArray, List.getElem_cons_zero, List.getElem_cons_succ, Act.put, List.setIfInBounds_toArray, List.set_cons_zero, List.set_cons_succ]
  refine wpAnyH_done (by kernel_rfl) ?_ _
  have hg := hg'
  clear hg'
  go_wp2_with fail
  have hg0 : (W3.drew).heap[g]? = some (.cells (brdF (mix F G 3) a b c d e) 125 (0, 0)) := hg
  refine wp_region_held_drew (S := fun w' : World => Lies F q w' ∧ Most g w w') (by kernel_rfl) ⟨hby, hM.trans (Most.below (drewN_below _ 1))⟩ (fun hHeld => ?_)
  clear hby hg hM
  refine wpAnyH_take (i := 0) (v := ?v3_0) rfl (by kernel_rfl) (by kernel_rfl) (by kernel_rfl) (fun _ _ _ h => h) (Or.inl ⟨by rfl, ?y3_0⟩) hHeld ?r3_0
  case y3_0 => (intro wq hSw; clear hSw; go_simp; try with_reducible rfl)
  try simp only [List.getElem_toArray, List.getElem_cons_zero, List.getElem_cons_succ, Act.put, List.setIfInBounds_toArray, List.set_cons_zero, List.set_cons_succ]
  refine wpAnyH_take (i := 1) (v := ?v3_1) rfl (by kernel_rfl) (by kernel_rfl) (by kernel_rfl) (fun _ _ _ h => h) (Or.inl ⟨by rfl, ?y3_1⟩) hHeld ?r3_1
  case y3_1 => (intro wq hSw; clear hSw; go_simp; try with_reducible rfl)
  try simp only [List.getElem_toArray, List.getElem_cons_zero, List.getElem_cons_succ, Act.put, List.setIfInBounds_toArray, List.set_cons_zero, List.set_cons_succ]
  refine wpAnyH_take (i := 2) (v := ?v3_2) rfl (by kernel_rfl) (by kernel_rfl) (by kernel_rfl) (fun _ _ _ h => h) (Or.inl ⟨by rfl, ?y3_2⟩) hHeld ?r3_2
  case y3_2 => (intro wq hSw; clear hSw; go_simp; try with_reducible rfl)
  try simp only [List.getElem_toArray, List.getElem_cons_zero, List.getElem_cons_succ, Act.put, List.setIfInBounds_toArray, List.set_cons_zero, List.set_cons_succ]
  refine wpAnyH_take (i := 3) (v := ?v3_3) rfl (by kernel_rfl) (by kernel_rfl) (by kernel_rfl) (fun _ _ _ h => h) (Or.inl ⟨by rfl, ?y3_3⟩) hHeld ?r3_3
  case y3_3 => (intro wq hSw; clear hSw; have hlo : (32 : Int) ≤ (cap : Int) := (by omega); have hne : ¬ cap = 24 := (by omega); go_simp; try with_reducible rfl)
  try simp only [List.getElem_toArray, List.getElem_cons_zero, List.getElem_cons_succ, Act.put, List.setIfInBounds_toArray, List.set_cons_zero, List.set_cons_succ]
  refine wpAnyH_ready (rs := [4]) (by kernel_rfl) (by simp) ?_
  refine AllReadyH.cons rfl (fun K hK => ?_) AllReadyH.nil
  try simp only [List.getElem_toArray, List.getElem_cons_zero, List.getElem_cons_succ, Act.put, List.setIfInBounds_toArray, List.set_cons_zero, List.set_cons_succ]
  rw [if_pos (by rfl)]
  go_simp
  refine (bc_uint (F 3) q 24 _ _ (fun j hj => hHeld.1 3 (by omega) j hj)).mono ?_
  rintro e1 w1 ⟨rfl, hb1⟩
  have hg1 := (hb1.block g (Array.getElem?_eq_some_iff.1 hg0).1).trans hg0
  have hS1 := And.intro (hHeld.1.most hq (Most.below hb1)) (hHeld.2.trans (Most.below hb1))
  clear hHeld hg0 hb1
  go_wp2_with fail
  refine hK.out _ _ hS1 (fun hHeld => ?_)
  clear hK K hS1
  try simp only [List.getElem_toArray, List.getElem_cons_zero, List.getElem_cons_succ, Act.put, List.setIfInBounds_toArray, List.set_cons_zero, List.set_cons_succ]
  refine wpAnyH_take (i := 5) (v := ?v3_5) rfl (by kernel_rfl) (by kernel_rfl) (by kernel_rfl) (fun _ _ _ h => h) (Or.inl ⟨by rfl, ?y3_5⟩) hHeld ?r3_5
  case y3_5 => (intro wq hSw; clear hSw; go_simp; try with_reducible rfl)
  try simp only [List.getElem_toArray, List.getElem_cons_zero, List.getElem_cons_succ, Act.put, List.setIfInBounds_toArray, List.set_cons_zero, List.set_cons_succ]
  refine wpAnyH_take (i := 6) (v := ?v3_6) rfl (by kernel_rfl) (by kernel_rfl) (by kernel_rfl) (fun _ _ _ h => h) (Or.inl ⟨by rfl, ?y3_6⟩) hHeld ?r3_6
  case y3_6 => (intro wq hSw; clear hSw; go_simp; try with_reducible rfl)
  try simp only [List.getElem_toArray, List.getElem_cons_zero, List.getElem_cons_succ, Act.put, List.setIfInBounds_toArray, List.set_cons_zero, List.set_cons_succ]
  refine wpAnyH_ready (rs := [7]) (by kernel_rfl) (by simp) ?_
  refine AllReadyH.cons rfl (fun K hK => ?_) AllReadyH.nil
  try simp only [List.getElem_toArray, List.getElem_cons_zero, List.getElem_cons_succ, Act.put, List.setIfInBounds_toArray, List.set_cons_zero, List.set_cons_succ]
  rw [if_pos (by rfl)]
  refine wp_store_one 123 _ _ rfl g 3 (bbv (F 3)) (by rfl) (by rfl) rfl rfl 125 _ hg1 (by simp [brdF]) (by kernel_rfl) ?_
  have hg' := heap_setCell_same w1 g 3 _ _ (bbv (F 3)) hg1
  rw [brdF_set _ _ _ _ _ _ 3 (by omega), mix_step] at hg'
  have hm' := Most.setCell g w1 3 (bbv (F 3))
  have hby := hHeld.1.most hq hm'
  have hM := hHeld.2.trans hm'
  clear hHeld hm' hg1
  generalize w1.setCell ⟨g, 3, none⟩ (bbv (F 3)) = W4 at *
  refine hK.out _ _ ⟨hby, hM⟩ (fun _ => ?_)
  clear hK K
  try simp only [List.getElem_toArray, List.getElem_cons_zero, List.getElem_cons_succ, Act.put, List.setIfInBounds_toArray, List.set_cons_zero, List.set_cons_succ]
  refine wpAnyH_done (by kernel_rfl) ?_ _
  have hg := hg'
  clear hg'
  go_wp2_with fail
  have hg0 : (W4.drew).heap[g]? = some (.cells (brdF (mix F G 4) a b c d e) 125 (0, 0)) := hg
  refine wp_region_held_drew (S := fun w' : World => Lies F q w' ∧ Most g w w') (by kernel_rfl) ⟨hby, hM.trans (Most.below (drewN_below _ 1))⟩ (fun hHeld => ?_)
  clear hby hg hM
  refine wpAnyH_take (i := 0) (v := ?v4_0) rfl (by kernel_rfl) (by kernel_rfl) (by kernel_rfl) (fun _ _ _ h => h) (Or.inl ⟨by rfl, ?y4_0⟩) hHeld ?r4_0
  case y4_0 => (intro wq hSw; clear hSw; go_simp; try with_reducible rfl)
  try simp only [List.getElem_toArray, List.getElem_cons_zero, List.getElem_cons_succ, Act.put, List.setIfInBounds_toArray, List.set_cons_zero, List.set_cons_succ]
  refine wpAnyH_take (i := 1) (v := ?v4_1) rfl (by kernel_rfl) (by kernel_rfl) (by kernel_rfl) (fun _ _ _ h => h) (Or.inl ⟨by rfl, ?y4_1⟩) hHeld ?r4_1
  case y4_1 => (intro wq hSw; clear hSw; go_simp; try with_reducible rfl)
  try simp only [List.getElem_toArray, List.getElem_cons_zero, List.getElem_cons_succ, Act.put, List.setIfInBounds_toArray, List.set_cons_zero, List.set_cons_succ]
  refine wpAnyH_take (i := 2) (v := ?v4_2) rfl (by kernel_rfl) (by kernel_rfl) (by kernel_rfl) (fun _ _ _ h => h) (Or.inl ⟨by rfl, ?y4_2⟩) hHeld ?r4_2
  case y4_2 => (intro wq hSw; clear hSw; go_simp; try with_reducible rfl)
  try simp only [List.getElem_toArray, List.getElem_cons_zero, List.getElem_cons_succ, Act.put, List.setIfInBounds_toArray, List.set_cons_zero, List.set_cons_succ]
  refine wpAnyH_take (i := 3) (v := ?v4_3) rfl (by kernel_rfl) (by kernel_rfl) (by kernel_rfl) (fun _ _ _ h => h) (Or.inl ⟨by rfl, ?y4_3⟩) hHeld ?r4_3
  case y4_3 => (intro wq hSw; clear hSw; have hlo : (40 : Int) ≤ (cap : Int) := (by omega); have hne : ¬ cap = 32 := (by omega); go_simp; try with_reducible rfl)
  try simp only [List.getElem_toArray, List.getElem_cons_zero, List.getElem_cons_succ, Act.put, List.setIfInBounds_toArray, List.set_cons_zero, List.set_cons_succ]
  refine wpAnyH_ready (rs := [4]) (by kernel_rfl) (by simp) ?_
  refine AllReadyH.cons rfl (fun K hK => ?_) AllReadyH.nil
  try simp only [List.getElem_toArray, List.getElem_cons_zero, List.getElem_cons_succ, Act.put, List.setIfInBounds_toArray, List.set_cons_zero, List.set_cons_succ]
  rw [if_pos (by rfl)]
  go_simp
  refine (bc_uint (F 4) q 32 _ _ (fun j hj => hHeld.1 4 (by omega) j hj)).mono ?_
  rintro e1 w1 ⟨rfl, hb1⟩
  have hg1 := (hb1.block g (Array.getElem?_eq_some_iff.1 hg0).1).trans hg0
  have hS1 := And.intro (hHeld.1.most hq (Most.below hb1)) (hHeld.2.trans (Most.below hb1))
  clear hHeld hg0 hb1
  go_wp2_with fail
  refine hK.out _ _ hS1 (fun hHeld => ?_)
  clear hK K hS1
  try simp only [List.getElem_toArray, List.getElem_cons_zero, List.getElem_cons_succ, Act.put, List.setIfInBounds_toArray, List.set_cons_zero, List.set_cons_succ]
  refine wpAnyH_take (i := 5) (v := ?v4_5) rfl (by kernel_rfl) (by kernel_rfl) (by kernel_rfl) (fun _ _ _ h => h) (Or.inl ⟨by rfl, ?y4_5⟩) hHeld ?r4_5
  case y4_5 => (intro wq hSw; clear hSw; go_simp; try with_reducible rfl)
  try simp only [List.getElem_toArray, List.getElem_cons_zero, List.getElem_cons_succ, Act.put, List.setIfInBounds_toArray, List.set_cons_zero, List.set_cons_succ]
  refine wpAnyH_take (i := 6) (v := ?v4_6) rfl (by kernel_rfl) (by kernel_rfl) (by kernel_rfl) (fun _ _ _ h => h) (Or.inl ⟨by rfl, ?y4_6⟩) hHeld ?r4_6
  case y4_6 => (intro wq hSw; clear hSw; go_simp; try with_reducible rfl)
  try simp only [List.getElem_toArray, List.getElem_cons_zero, List.getElem_cons_succ, Act.put, List.setIfInBounds_toArray, List.set_cons_zero, List.set_cons_succ]
  refine wpAnyH_ready (rs := [7]) (by kernel_rfl) (by simp) ?_
  refine AllReadyH.cons rfl (fun K hK => ?_) AllReadyH.nil
  try simp only [List.getElem_toArray, List.getElem_cons_zero, List.getElem_cons_succ, Act.put, List.setIfInBounds_toArray, List.set_cons_zero, List.set_cons_succ]
  rw [if_pos (by rfl)]
  refine wp_store_one 123 _ _ rfl g 4 (bbv (F 4)) (by rfl) (by rfl) rfl rfl 125 _ hg1 (by simp [brdF]) (by kernel_rfl) ?_
  have hg' := heap_setCell_same w1 g 4 _ _ (bbv (F 4)) hg1
  rw [brdF_set _ _ _ _ _ _ 4 (by omega), mix_step] at hg'
  have hm' := Most.setCell g w1 4 (bbv (F 4))
  have hby := hHeld.1.most hq hm'
  have hM := hHeld.2.trans hm'
  clear hHeld hm' hg1
  generalize w1.setCell ⟨g, 4, none⟩ (bbv (F 4)) = W5 at *
  refine hK.out _ _ ⟨hby, hM⟩ (fun _ => ?_)
  clear hK K
  try simp only [List.getElem_toArray, List.getElem_cons_zero, List.getElem_cons_succ, Act.put, List.setIfInBounds_toArray, List.set_cons_zero, List.set_cons_succ]
  refine wpAnyH_done (by kernel_rfl) ?_ _
  have hg := hg'
  clear hg'
  go_wp2_with fail
  have hg0 : (W5.drew).heap[g]? = some (.cells (brdF (mix F G 5) a b c d e) 125 (0, 0)) := hg
  refine wp_region_held_drew (S := fun w' : World => Lies F q w' ∧ Most g w w') (by kernel_rfl) ⟨hby, hM.trans (Most.below (drewN_below _ 1))⟩ (fun hHeld => ?_)
  clear hby hg hM
  refine wpAnyH_take (i := 0) (v := ?v5_0) rfl (by kernel_rfl) (by kernel_rfl) (by kernel_rfl) (fun _ _ _ h => h) (Or.inl ⟨by rfl, ?y5_0⟩) hHeld ?r5_0
  case y5_0 => (intro wq hSw; clear hSw; go_simp; try with_reducible rfl)
  try simp only [List.getElem_toArray, List.getElem_cons_zero, List.getElem_cons_succ, Act.put, List.setIfInBounds_toArray, List.set_cons_zero, List.set_cons_succ]
  refine wpAnyH_take (i := 1) (v := ?v5_1) rfl (by kernel_rfl) (by kernel_rfl) (by kernel_rfl) (fun _ _ _ h => h) (Or.inl ⟨by rfl, ?y5_1⟩) hHeld ?r5_1
  case y5_1 => (intro wq hSw; clear hSw; go_simp; try with_reducible rfl)
  try simp only [List.getElem_toArray, List.getElem_cons_zero, List.getElem_cons_succ, Act.put, List.setIfInBounds_toArray, List.set_cons_zero, List.set_cons_succ]
  refine wpAnyH_take (i := 2) (v := ?v5_2) rfl (by kernel_rfl) (by kernel_rfl) (by kernel_rfl) (fun _ _ _ h => h) (Or.inl ⟨by rfl, ?y5_2⟩) hHeld ?r5_2
  case y5_2 => (intro wq hSw; clear hSw; go_simp; try with_reducible rfl)
  try simp only [List.getElem_toArray, List.getElem_cons_zero, List.getElem_cons_succ, Act.put, List.setIfInBounds_toArray, List.set_cons_zero, List.set_cons_succ]
  refine wpAnyH_take (i := 3) (v := ?v5_3) rfl (by kernel_rfl) (by kernel_rfl) (by kernel_rfl) (fun _ _ _ h => h) (Or.inl ⟨by rfl, ?y5_3⟩) hHeld ?r5_3
  case y5_3 => (intro wq hSw; clear hSw; have hlo : (48 : Int) ≤ (cap : Int) := (by omega); have hne : ¬ cap = 40 := (by omega); go_simp; try with_reducible rfl)
  try simp only [List.getElem_toArray, List.getElem_cons_zero, List.getElem_cons_succ, Act.put, List.setIfInBounds_toArray, List.set_cons_zero, List.set_cons_succ]
  refine wpAnyH_ready (rs := [4]) (by kernel_rfl) (by simp) ?_
  refine AllReadyH.cons rfl (fun K hK => ?_) AllReadyH.nil
  try simp only [List.getElem_toArray, List.getElem_cons_zero, List.getElem_cons_succ, Act.put, List.setIfInBounds_toArray, List.set_cons_zero, List.set_cons_succ]
  rw [if_pos (by rfl)]
  go_simp
  refine (bc_uint (F 5) q 40 _ _ (fun j hj => hHeld.1 5 (by omega) j hj)).mono ?_
  rintro e1 w1 ⟨rfl, hb1⟩
  have hg1 := (hb1.block g (Array.getElem?_eq_some_iff.1 hg0).1).trans hg0
  have hS1 := And.intro (hHeld.1.most hq (Most.below hb1)) (hHeld.2.trans (Most.below hb1))
  clear hHeld hg0 hb1
  go_wp2_with fail
  refine hK.out _ _ hS1 (fun hHeld => ?_)
  clear hK K hS1
  try simp only [List.getElem_toArray, List.getElem_cons_zero, List.getElem_cons_succ, Act.put, List.setIfInBounds_toArray, List.set_cons_zero, List.set_cons_succ]
  refine wpAnyH_take (i := 5) (v := ?v5_5) rfl (by kernel_rfl) (by kernel_rfl) (by kernel_rfl) (fun _ _ _ h => h) (Or.inl ⟨by rfl, ?y5_5⟩) hHeld ?r5_5
  case y5_5 => (intro wq hSw; clear hSw; go_simp; try with_reducible rfl)
  try simp only [List.getElem_toArray, List.getElem_cons_zero, List.getElem_cons_succ, Act.put, List.setIfInBounds_toArray, List.set_cons_zero, List.set_cons_succ]
  refine wpAnyH_take (i := 6) (v := ?v5_6) rfl (by kernel_rfl) (by kernel_rfl) (by kernel_rfl) (fun _ _ _ h => h) (Or.inl ⟨by rfl, ?y5_6⟩) hHeld ?r5_6
  case y5_6 => (intro wq hSw; clear hSw; go_simp; try with_reducible rfl)
  try simp only [List.getElem_toArray, List.getElem_cons_zero, List.getElem_cons_succ, Act.put, List.setIfInBounds_toArray, List.set_cons_zero, List.set_cons_succ]
  refine wpAnyH_ready (rs := [7]) (by kernel_rfl) (by simp) ?_
  refine AllReadyH.cons rfl (fun K hK => ?_) AllReadyH.nil
  try simp only [List.getElem_toArray, List.getElem_cons_zero, List.getElem_cons_succ, Act.put, List.setIfInBounds_toArray, List.set_cons_zero, List.set_cons_succ]
  rw [if_pos (by rfl)]
  refine wp_store_one 123 _ _ rfl g 5 (bbv (F 5)) (by rfl) (by rfl) rfl rfl 125 _ hg1 (by simp [brdF]) (by kernel_rfl) ?_
  have hg' := heap_setCell_same w1 g 5 _ _ (bbv (F 5)) hg1
  rw [brdF_set _ _ _ _ _ _ 5 (by omega), mix_step] at hg'
  have hm' := Most.setCell g w1 5 (bbv (F 5))
  have hby := hHeld.1.most hq hm'
  have hM := hHeld.2.trans hm'
  clear hHeld hm' hg1
  generalize w1.setCell ⟨g, 5, none⟩ (bbv (F 5)) = W6 at *
  refine hK.out _ _ ⟨hby, hM⟩ (fun _ => ?_)
  clear hK K
  try simp only [List.getElem_toArray, List.getElem_cons_zero, List.getElem_cons_succ, Act.put, List.setIfInBounds_toArray, List.set_cons_zero, List.set_cons_succ]
  refine wpAnyH_done (by kernel_rfl) ?_ _
  have hg := hg'
  clear hg'
  go_wp2_with fail
  have hg0 : (W6.drew).heap[g]? = some (.cells (brdF (mix F G 6) a b c d e) 125 (0, 0)) := hg
  refine wp_region_held_drew (S := fun w' : World => Lies F q w' ∧ Most g w w') (by kernel_rfl) ⟨hby, hM.trans (Most.below (drewN_below _ 1))⟩ (fun hHeld => ?_)
  clear hby hg hM
  refine wpAnyH_take (i := 0) (v := ?v6_0) rfl (by kernel_rfl) (by kernel_rfl) (by kernel_rfl) (fun _ _ _ h => h) (Or.inl ⟨by rfl, ?y6_0⟩) hHeld ?r6_0
  case y6_0 => (intro wq hSw; clear hSw; go_simp; try with_reducible rfl)
  try simp only [List.getElem_toArray, List.getElem_cons_zero, List.getElem_cons_succ, Act.put, List.setIfInBounds_toArray, List.set_cons_zero, List.set_cons_succ]
  refine wpAnyH_take (i := 1) (v := ?v6_1) rfl (by kernel_rfl) (by kernel_rfl) (by kernel_rfl) (fun _ _ _ h => h) (Or.inl ⟨by rfl, ?y6_1⟩) hHeld ?r6_1
  case y6_1 => (intro wq hSw; clear hSw; go_simp; try with_reducible rfl)
  try simp only [List.getElem_toArray, List.getElem_cons_zero, List.getElem_cons_succ, Act.put, List.setIfInBounds_toArray, List.set_cons_zero, List.set_cons_succ]
  refine wpAnyH_take (i := 2) (v := ?v6_2) rfl (by kernel_rfl) (by kernel_rfl) (by kernel_rfl) (fun _ _ _ h => h) (Or.inl ⟨by rfl, ?y6_2⟩) hHeld ?r6_2
  case y6_2 => (intro wq hSw; clear hSw; go_simp; try with_reducible rfl)
  try simp only [List.getElem_toArray, List.getElem_cons_zero, List.getElem_cons_succ, Act.put, List.setIfInBounds_toArray, List.set_cons_zero, List.set_cons_succ]
  refine wpAnyH_take (i := 3) (v := ?v6_3) rfl (by kernel_rfl) (by kernel_rfl) (by kernel_rfl) (fun _ _ _ h => h) (Or.inl ⟨by rfl, ?y6_3⟩) hHeld ?r6_3
  case y6_3 => (intro wq hSw; clear hSw; have hlo : (56 : Int) ≤ (cap : Int) := (by omega); have hne : ¬ cap = 48 := (by omega); go_simp; try with_reducible rfl)
  try simp only [List.getElem_toArray, List.getElem_cons_zero, List.getElem_cons_succ, Act.put, List.setIfInBounds_toArray, List.set_cons_zero, List.set_cons_succ]
  refine wpAnyH_ready (rs := [4]) (by kernel_rfl) (by simp) ?_
  refine AllReadyH.cons rfl (fun K hK => ?_) AllReadyH.nil
  try simp only [List.getElem_toArray, List.getElem_cons_zero, List.getElem_cons_succ, Act.put, List.setIfInBounds_toArray, List.set_cons_zero, List.set_cons_succ]
  rw [if_pos (by rfl)]
  go_simp
  refine (bc_uint (F 6) q 48 _ _ (fun j hj => hHeld.1 6 (by omega) j hj)).mono ?_
  rintro e1 w1 ⟨rfl, hb1⟩
  have hg1 := (hb1.block g (Array.getElem?_eq_some_iff.1 hg0).1).trans hg0
  have hS1 := And.intro (hHeld.1.most hq (Most.below hb1)) (hHeld.2.trans (Most.below hb1))
  clear hHeld hg0 hb1
  go_wp2_with fail
  refine hK.out _ _ hS1 (fun hHeld => ?_)
  clear hK K hS1
  try simp only [List.getElem_toArray, List.getElem_cons_zero, List.getElem_cons_succ, Act.put, List.setIfInBounds_toArray, List.set_cons_zero, List.set_cons_succ]
  refine wpAnyH_take (i := 5) (v := ?v6_5) rfl (by kernel_rfl) (by kernel_rfl) (by kernel_rfl) (fun _ _ _ h => h) (Or.inl ⟨by rfl, ?y6_5⟩) hHeld ?r6_5
  case y6_5 => (intro wq hSw; clear hSw; go_simp; try with_reducible rfl)
  try simp only [List.getElem_toArray, List.getElem_cons_zero, List.getElem_cons_succ, Act.put, List.setIfInBounds_toArray, List.set_cons_zero, List.set_cons_succ]
  refine wpAnyH_take (i := 6) (v := ?v6_6) rfl (by kernel_rfl) (by kernel_rfl) (by kernel_rfl) (fun _ _ _ h => h) (Or.inl ⟨by rfl, ?y6_6⟩) hHeld ?r6_6
  case y6_6 => (intro wq hSw; clear hSw; go_simp; try with_reducible rfl)
  try simp only [List.getElem_toArray, List.getElem_cons_zero, List.getElem_cons_succ, Act.put, List.setIfInBounds_toArray, List.set_cons_zero, List.set_cons_succ]
  refine wpAnyH_ready (rs := [7]) (by kernel_rfl) (by simp) ?_
  refine AllReadyH.cons rfl (fun K hK => ?_) AllReadyH.nil
  try simp only [List.getElem_toArray, List.getElem_cons_zero, List.getElem_cons_succ, Act.put, List.setIfInBounds_toArray, List.set_cons_zero, List.set_cons_succ]
  rw [if_pos (by rfl)]
  refine wp_store_one 123 _ _ rfl g 6 (bbv (F 6)) (by rfl) (by rfl) rfl rfl 125 _ hg1 (by simp [brdF]) (by kernel_rfl) ?_
  have hg' := heap_setCell_same w1 g 6 _ _ (bbv (F 6)) hg1
  rw [brdF_set _ _ _ _ _ _ 6 (by omega), mix_step] at hg'
  have hm' := Most.setCell g w1 6 (bbv (F 6))
  have hby := hHeld.1.most hq hm'
  have hM := hHeld.2.trans hm'
  clear hHeld hm' hg1
  generalize w1.setCell ⟨g, 6, none⟩ (bbv (F 6)) = W7 at *
  refine hK.out _ _ ⟨hby, hM⟩ (fun _ => ?_)
  clear hK K
  try simp only [List.getElem_toArray, List.getElem_cons_zero, List.getElem_cons_succ, Act.put, List.setIfInBounds_toArray, List.set_cons_zero, List.set_cons_succ]
  refine wpAnyH_done (by kernel_rfl) ?_ _
  have hg := hg'
  clear hg'
  go_wp2_with fail
  have hg0 : (W7.drew).heap[g]? = some (.cells (brdF (mix F G 7) a b c d e) 125 (0, 0)) := hg
  refine wp_region_held_drew (S := fun w' : World => Lies F q w' ∧ Most g w w') (by kernel_rfl) ⟨hby, hM.trans (Most.below (drewN_below _ 1))⟩ (fun hHeld => ?_)
  clear hby hg hM
  refine wpAnyH_take (i := 0) (v := ?v7_0) rfl (by kernel_rfl) (by kernel_rfl) (by kernel_rfl) (fun _ _ _ h => h) (Or.inl ⟨by rfl, ?y7_0⟩) hHeld ?r7_0
  case y7_0 => (intro wq hSw; clear hSw; go_simp; try with_reducible rfl)
  try simp only [List.getElem_toArray, List.getElem_cons_zero, List.getElem_cons_succ, Act.put, List.setIfInBounds_toArray, List.set_cons_zero, List.set_cons_succ]
  refine wpAnyH_take (i := 1) (v := ?v7_1) rfl (by kernel_rfl) (by kernel_rfl) (by kernel_rfl) (fun _ _ _ h => h) (Or.inl ⟨by rfl, ?y7_1⟩) hHeld ?r7_1
  case y7_1 => (intro wq hSw; clear hSw; go_simp; try with_reducible rfl)
  try simp only [List.getElem_toArray, List.getElem_cons_zero, List.getElem_cons_succ, Act.put, List.setIfInBounds_toArray, List.set_cons_zero, List.set_cons_succ]
  refine wpAnyH_take (i := 2) (v := ?v7_2) rfl (by kernel_rfl) (by kernel_rfl) (by kernel_rfl) (fun _ _ _ h => h) (Or.inl ⟨by rfl, ?y7_2⟩) hHeld ?r7_2
  case y7_2 => (intro wq hSw; clear hSw; go_simp; try with_reducible rfl)
  try simp only [List.getElem_toArray, List.getElem_cons_zero, List.getElem_cons_succ, Act.put, List.setIfInBounds_toArray, List.set_cons_zero, List.set_cons_succ]
  refine wpAnyH_take (i := 3) (v := ?v7_3) rfl (by kernel_rfl) (by kernel_rfl) (by kernel_rfl) (fun _ _ _ h => h) (Or.inl ⟨by rfl, ?y7_3⟩) hHeld ?r7_3
  case y7_3 => (intro wq hSw; clear hSw; have hlo : (64 : Int) ≤ (cap : Int) := (by omega); have hne : ¬ cap = 56 := (by omega); go_simp; try with_reducible rfl)
  try simp only [List.getElem_toArray, List.getElem_cons_zero, List.getElem_cons_succ, Act.put, List.setIfInBounds_toArray, List.set_cons_zero, List.set_cons_succ]
  refine wpAnyH_ready (rs := [4]) (by kernel_rfl) (by simp) ?_
  refine AllReadyH.cons rfl (fun K hK => ?_) AllReadyH.nil
  try simp only [List.getElem_toArray, List.getElem_cons_zero, List.getElem_cons_succ, Act.put, List.setIfInBounds_toArray, List.set_cons_zero, List.set_cons_succ]
  rw [if_pos (by rfl)]
  go_simp
  refine (bc_uint (F 7) q 56 _ _ (fun j hj => hHeld.1 7 (by omega) j hj)).mono ?_
  rintro e1 w1 ⟨rfl, hb1⟩
  have hg1 := (hb1.block g (Array.getElem?_eq_some_iff.1 hg0).1).trans hg0
  have hS1 := And.intro (hHeld.1.most hq (Most.below hb1)) (hHeld.2.trans (Most.below hb1))
  clear hHeld hg0 hb1
  go_wp2_with fail
  refine hK.out _ _ hS1 (fun hHeld => ?_)
  clear hK K hS1
  try simp only [List.getElem_toArray, List.getElem_cons_zero, List.getElem_cons_succ, Act.put, List.setIfInBounds_toArray, List.set_cons_zero, List.set_cons_succ]
  refine wpAnyH_take (i := 5) (v := ?v7_5) rfl (by kernel_rfl) (by kernel_rfl) (by kernel_rfl) (fun _ _ _ h => h) (Or.inl ⟨by rfl, ?y7_5⟩) hHeld ?r7_5
  case y7_5 => (intro wq hSw; clear hSw; go_simp; try with_reducible rfl)
  try simp only [List.getElem_toArray, List.getElem_cons_zero, List.getElem_cons_succ, Act.put, List.setIfInBounds_toArray, List.set_cons_zero, List.set_cons_succ]
  refine wpAnyH_take (i := 6) (v := ?v7_6) rfl (by kernel_rfl) (by kernel_rfl) (by kernel_rfl) (fun _ _ _ h => h) (Or.inl ⟨by rfl, ?y7_6⟩) hHeld ?r7_6
  case y7_6 => (intro wq hSw; clear hSw; go_simp; try with_reducible rfl)
  try simp only [List.getElem_toArray, List.getElem_cons_zero, List.getElem_cons_succ, Act.put, List.setIfInBounds_toArray, List.set_cons_zero, List.set_cons_succ]
  refine wpAnyH_ready (rs := [7]) (by kernel_rfl) (by simp) ?_
  refine AllReadyH.cons rfl (fun K hK => ?_) AllReadyH.nil
  try simp only [List.getElem_toArray, List.getElem_cons_zero, List.getElem_cons_succ, Act.put, List.setIfInBounds_toArray, List.set_cons_zero, List.set_cons_succ]
  rw [if_pos (by rfl)]
  refine wp_store_one 123 _ _ rfl g 7 (bbv (F 7)) (by rfl) (by rfl) rfl rfl 125 _ hg1 (by simp [brdF]) (by kernel_rfl) ?_
  have hg' := heap_setCell_same w1 g 7 _ _ (bbv (F 7)) hg1
  rw [brdF_set _ _ _ _ _ _ 7 (by omega), mix_step] at hg'
  have hm' := Most.setCell g w1 7 (bbv (F 7))
  have hby := hHeld.1.most hq hm'
  have hM := hHeld.2.trans hm'
  clear hHeld hm' hg1
  generalize w1.setCell ⟨g, 7, none⟩ (bbv (F 7)) = W8 at *
  refine hK.out _ _ ⟨hby, hM⟩ (fun _ => ?_)
  clear hK K
  try simp only [List.getElem_toArray, List.getElem_cons_zero, List.getElem_cons_succ, Act.put, List.setIfInBounds_toArray, List.set_cons_zero, List.set_cons_succ]
  refine wpAnyH_done (by kernel_rfl) ?_ _
  have hg := hg'
  clear hg'
  go_wp2_with fail
  have hg0 : (W8.drew).heap[g]? = some (.cells (brdF (mix F G 8) a b c d e) 125 (0, 0)) := hg
  refine wp_region_held_drew (S := fun w' : World => Lies F q w' ∧ Most g w w') (by kernel_rfl) ⟨hby, hM.trans (Most.below (drewN_below _ 1))⟩ (fun hHeld => ?_)
  clear hby hg hM
  refine wpAnyH_take (i := 0) (v := ?v8_0) rfl (by kernel_rfl) (by kernel_rfl) (by kernel_rfl) (fun _ _ _ h => h) (Or.inl ⟨by rfl, ?y8_0⟩) hHeld ?r8_0
  case y8_0 => (intro wq hSw; clear hSw; go_simp; try with_reducible rfl)
  try simp only [List.getElem_toArray, List.getElem_cons_zero, List.getElem_cons_succ, Act.put, List.setIfInBounds_toArray, List.set_cons_zero, List.set_cons_succ]
  refine wpAnyH_take (i := 1) (v := ?v8_1) rfl (by kernel_rfl) (by kernel_rfl) (by kernel_rfl) (fun _ _ _ h => h) (Or.inl ⟨by rfl, ?y8_1⟩) hHeld ?r8_1
  case y8_1 => (intro wq hSw; clear hSw; go_simp; try with_reducible rfl)
  try simp only [List.getElem_toArray, List.getElem_cons_zero, List.getElem_cons_succ, Act.put, List.setIfInBounds_toArray, List.set_cons_zero, List.set_cons_succ]
  refine wpAnyH_take (i := 2) (v := ?v8_2) rfl (by kernel_rfl) (by kernel_rfl) (by kernel_rfl) (fun _ _ _ h => h) (Or.inl ⟨by rfl, ?y8_2⟩) hHeld ?r8_2
  case y8_2 => (intro wq hSw; clear hSw; go_simp; try with_reducible rfl)
  try simp only [List.getElem_toArray, List.getElem_cons_zero, List.getElem_cons_succ, Act.put, List.setIfInBounds_toArray, List.set_cons_zero, List.set_cons_succ]
  refine wpAnyH_take (i := 3) (v := ?v8_3) rfl (by kernel_rfl) (by kernel_rfl) (by kernel_rfl) (fun _ _ _ h => h) (Or.inl ⟨by rfl, ?y8_3⟩) hHeld ?r8_3
  case y8_3 => (intro wq hSw; clear hSw; have hlo : (72 : Int) ≤ (cap : Int) := (by omega); have hne : ¬ cap = 64 := (by omega); go_simp; try with_reducible rfl)
  try simp only [List.getElem_toArray, List.getElem_cons_zero, List.getElem_cons_succ, Act.put, List.setIfInBounds_toArray, List.set_cons_zero, List.set_cons_succ]
  refine wpAnyH_ready (rs := [4]) (by kernel_rfl) (by simp) ?_
  refine AllReadyH.cons rfl (fun K hK => ?_) AllReadyH.nil
  try simp only [List.getElem_toArray, List.getElem_cons_zero, List.getElem_cons_succ, Act.put, List.setIfInBounds_toArray, List.set_cons_zero, List.set_cons_succ]
  rw [if_pos (by rfl)]
  go_simp
  refine (bc_uint (F 8) q 64 _ _ (fun j hj => hHeld.1 8 (by omega) j hj)).mono ?_
  rintro e1 w1 ⟨rfl, hb1⟩
  have hg1 := (hb1.block g (Array.getElem?_eq_some_iff.1 hg0).1).trans hg0
  have hS1 := And.intro (hHeld.1.most hq (Most.below hb1)) (hHeld.2.trans (Most.below hb1))
  clear hHeld hg0 hb1
  go_wp2_with fail
  refine hK.out _ _ hS1 (fun hHeld => ?_)
  clear hK K hS1
  try simp only [List.getElem_toArray, List.getElem_cons_zero, List.getElem_cons_succ, Act.put, List.setIfInBounds_toArray, List.set_cons_zero, List.set_cons_succ]
  refine wpAnyH_take (i := 5) (v := ?v8_5) rfl (by kernel_rfl) (by kernel_rfl) (by kernel_rfl) (fun _ _ _ h => h) (Or.inl ⟨by rfl, ?y8_5⟩) hHeld ?r8_5
  case y8_5 => (intro wq hSw; clear hSw; go_simp; try with_reducible rfl)
  try simp only [List.getElem_toArray, List.getElem_cons_zero, List.getElem_cons_succ, Act.put, List.setIfInBounds_toArray, List.set_cons_zero, List.set_cons_succ]
  refine wpAnyH_take (i := 6) (v := ?v8_6) rfl (by kernel_rfl) (by kernel_rfl) (by kernel_rfl) (fun _ _ _ h => h) (Or.inl ⟨by rfl, ?y8_6⟩) hHeld ?r8_6
  case y8_6 => (intro wq hSw; clear hSw; go_simp; try with_reducible rfl)
  try simp only [List.getElem_toArray, List.getElem_cons_zero, List.getElem_cons_succ, Act.put, List.setIfInBounds_toArray, List.set_cons_zero, List.set_cons_succ]
  refine wpAnyH_ready (rs := [7]) (by kernel_rfl) (by simp) ?_
  refine AllReadyH.cons rfl (fun K hK => ?_) AllReadyH.nil
  try simp only [List.getElem_toArray, List.getElem_cons_zero, List.getElem_cons_succ, Act.put, List.setIfInBounds_toArray, List.set_cons_zero, List.set_cons_succ]
  rw [if_pos (by rfl)]
  refine wp_store_one 123 _ _ rfl g 8 (bbv (F 8)) (by rfl) (by rfl) rfl rfl 125 _ hg1 (by simp [brdF]) (by kernel_rfl) ?_
  have hg' := heap_setCell_same w1 g 8 _ _ (bbv (F 8)) hg1
  rw [brdF_set _ _ _ _ _ _ 8 (by omega), mix_step] at hg'
  have hm' := Most.setCell g w1 8 (bbv (F 8))
  have hby := hHeld.1.most hq hm'
  have hM := hHeld.2.trans hm'
  clear hHeld hm' hg1
  generalize w1.setCell ⟨g, 8, none⟩ (bbv (F 8)) = W9 at *
  refine hK.out _ _ ⟨hby, hM⟩ (fun _ => ?_)
  clear hK K
  try simp only [List.getElem_toArray, List.getElem_cons_zero, List.getElem_cons_succ, Act.put, List.setIfInBounds_toArray, List.set_cons_zero, List.set_cons_succ]
  refine wpAnyH_done (by kernel_rfl) ?_ _
  have hg := hg'
  clear hg'
  go_wp2_with fail
  have hg0 : (W9.drew).heap[g]? = some (.cells (brdF (mix F G 9) a b c d e) 125 (0, 0)) := hg
  refine wp_region_held_drew (S := fun w' : World => Lies F q w' ∧ Most g w w') (by kernel_rfl) ⟨hby, hM.trans (Most.below (drewN_below _ 1))⟩ (fun hHeld => ?_)
  clear hby hg hM
  refine wpAnyH_take (i := 0) (v := ?v9_0) rfl (by kernel_rfl) (by kernel_rfl) (by kernel_rfl) (fun _ _ _ h => h) (Or.inl ⟨by rfl, ?y9_0⟩) hHeld ?r9_0
  case y9_0 => (intro wq hSw; clear hSw; go_simp; try with_reducible rfl)
  try simp only [List.getElem_toArray, List.getElem_cons_zero, List.getElem_cons_succ, Act.put, List.setIfInBounds_toArray, List.set_cons_zero, List.set_cons_succ]
  refine wpAnyH_take (i := 1) (v := ?v9_1) rfl (by kernel_rfl) (by kernel_rfl) (by kernel_rfl) (fun _ _ _ h => h) (Or.inl ⟨by rfl, ?y9_1⟩) hHeld ?r9_1
  case y9_1 => (intro wq hSw; clear hSw; go_simp; try with_reducible rfl)
  try simp only [List.getElem_toArray, List.getElem_cons_zero, List.getElem_cons_succ, Act.put, List.setIfInBounds_toArray, List.set_cons_zero, List.set_cons_succ]
  refine wpAnyH_take (i := 2) (v := ?v9_2) rfl (by kernel_rfl) (by kernel_rfl) (by kernel_rfl) (fun _ _ _ h => h) (Or.inl ⟨by rfl, ?y9_2⟩) hHeld ?r9_2
  case y9_2 => (intro wq hSw; clear hSw; go_simp; try with_reducible rfl)
  try simp only [List.getElem_toArray, List.getElem_cons_zero, List.getElem_cons_succ, Act.put, List.setIfInBounds_toArray, List.set_cons_zero, List.set_cons_succ]
  refine wpAnyH_take (i := 3) (v := ?v9_3) rfl (by kernel_rfl) (by kernel_rfl) (by kernel_rfl) (fun _ _ _ h => h) (Or.inl ⟨by rfl, ?y9_3⟩) hHeld ?r9_3
  case y9_3 => (intro wq hSw; clear hSw; have hlo : (80 : Int) ≤ (cap : Int) := (by omega); have hne : ¬ cap = 72 := (by omega); go_simp; try with_reducible rfl)
  try simp only [List.getElem_toArray, List.getElem_cons_zero, List.getElem_cons_succ, Act.put, List.setIfInBounds_toArray, List.set_cons_zero, List.set_cons_succ]
  refine wpAnyH_ready (rs := [4]) (by kernel_rfl) (by simp) ?_
  refine AllReadyH.cons rfl (fun K hK => ?_) AllReadyH.nil
  try simp only [List.getElem_toArray, List.getElem_cons_zero, List.getElem_cons_succ, Act.put, List.setIfInBounds_toArray, List.set_cons_zero, List.set_cons_succ]
  rw [if_pos (by rfl)]
  go_simp
  refine (bc_uint (F 9) q 72 _ _ (fun j hj => hHeld.1 9 (by omega) j hj)).mono ?_
  rintro e1 w1 ⟨rfl, hb1⟩
  have hg1 := (hb1.block g (Array.getElem?_eq_some_iff.1 hg0).1).trans hg0
  have hS1 := And.intro (hHeld.1.most hq (Most.below hb1)) (hHeld.2.trans (Most.below hb1))
  clear hHeld hg0 hb1
  go_wp2_with fail
  refine hK.out _ _ hS1 (fun hHeld => ?_)
  clear hK K hS1
  try simp only [List.getElem_toArray, List.getElem_cons_zero, List.getElem_cons_succ, Act.put, List.setIfInBounds_toArray, List.set_cons_zero, List.set_cons_succ]
  refine wpAnyH_take (i := 5) (v := ?v9_5) rfl (by kernel_rfl) (by kernel_rfl) (by kernel_rfl) (fun _ _ _ h => h) (Or.inl ⟨by rfl, ?y9_5⟩) hHeld ?r9_5
  case y9_5 => (intro wq hSw; clear hSw; go_simp; try with_reducible rfl)
  try simp only [List.getElem_toArray, List.getElem_cons_zero, List.getElem_cons_succ, Act.put, List.setIfInBounds_toArray, List.set_cons_zero, List.set_cons_succ]
  refine wpAnyH_take (i := 6) (v := ?v9_6) rfl (by kernel_rfl) (by kernel_rfl) (by kernel_rfl) (fun _ _ _ h => h) (Or.inl ⟨by rfl, ?y9_6⟩) hHeld ?r9_6
  case y9_6 => (intro wq hSw; clear hSw; go_simp; try with_reducible rfl)
  try simp only [List.getElem_toArray, List.getElem_cons_zero, List.getElem_cons_succ, Act.put, List.setIfInBounds_toArray, List.set_cons_zero, List.set_cons_succ]
  refine wpAnyH_ready (rs := [7]) (by kernel_rfl) (by simp) ?_
  refine AllReadyH.cons rfl (fun K hK => ?_) AllReadyH.nil
  try simp only [List.getElem_toArray, List.getElem_cons_zero, List.getElem_cons_succ, Act.put, List.setIfInBounds_toArray, List.set_cons_zero, List.set_cons_succ]
  rw [if_pos (by rfl)]
  refine wp_store_one 123 _ _ rfl g 9 (bbv (F 9)) (by rfl) (by rfl) rfl rfl 125 _ hg1 (by simp [brdF]) (by kernel_rfl) ?_
  have hg' := heap_setCell_same w1 g 9 _ _ (bbv (F 9)) hg1
  rw [brdF_set _ _ _ _ _ _ 9 (by omega), mix_step] at hg'
  have hm' := Most.setCell g w1 9 (bbv (F 9))
  have hby := hHeld.1.most hq hm'
  have hM := hHeld.2.trans hm'
  clear hHeld hm' hg1
  generalize w1.setCell ⟨g, 9, none⟩ (bbv (F 9)) = W10 at *
  refine hK.out _ _ ⟨hby, hM⟩ (fun _ => ?_)
  clear hK K
  try simp only [List.getElem_toArray, List.getElem_cons_zero, List.getElem_cons_succ, Act.put, List.setIfInBounds_toArray, List.set_cons_zero, List.set_cons_succ]
  refine wpAnyH_done (by kernel_rfl) ?_ _
  have hg := hg'
  clear hg'
  go_wp2_with fail
  have hg0 : (W10.drew).heap[g]? = some (.cells (brdF (mix F G 10) a b c d e) 125 (0, 0)) := hg
  refine wp_region_held_drew (S := fun w' : World => Lies F q w' ∧ Most g w w') (by kernel_rfl) ⟨hby, hM.trans (Most.below (drewN_below _ 1))⟩ (fun hHeld => ?_)
  clear hby hg hM
  refine wpAnyH_take (i := 0) (v := ?v10_0) rfl (by kernel_rfl) (by kernel_rfl) (by kernel_rfl) (fun _ _ _ h => h) (Or.inl ⟨by rfl, ?y10_0⟩) hHeld ?r10_0
  case y10_0 => (intro wq hSw; clear hSw; go_simp; try with_reducible rfl)
  try simp only [List.getElem_toArray, List.getElem_cons_zero, List.getElem_cons_succ, Act.put, List.setIfInBounds_toArray, List.set_cons_zero, List.set_cons_succ]
  refine wpAnyH_take (i := 1) (v := ?v10_1) rfl (by kernel_rfl) (by kernel_rfl) (by kernel_rfl) (fun _ _ _ h => h) (Or.inl ⟨by rfl, ?y10_1⟩) hHeld ?r10_1
  case y10_1 => (intro wq hSw; clear hSw; go_simp; try with_reducible rfl)
  try simp only [List.getElem_toArray, List.getElem_cons_zero, List.getElem_cons_succ, Act.put, List.setIfInBounds_toArray, List.set_cons_zero, List.set_cons_succ]
  refine wpAnyH_take (i := 2) (v := ?v10_2) rfl (by kernel_rfl) (by kernel_rfl) (by kernel_rfl) (fun _ _ _ h => h) (Or.inl ⟨by rfl, ?y10_2⟩) hHeld ?r10_2
  case y10_2 => (intro wq hSw; clear hSw; go_simp; try with_reducible rfl)
  try simp only [List.getElem_toArray, List.getElem_cons_zero, List.getElem_cons_succ, Act.put, List.setIfInBounds_toArray, List.set_cons_zero, List.set_cons_succ]
  refine wpAnyH_take (i := 3) (v := ?v10_3) rfl (by kernel_rfl) (by kernel_rfl) (by kernel_rfl) (fun _ _ _ h => h) (Or.inl ⟨by rfl, ?y10_3⟩) hHeld ?r10_3
  case y10_3 => (intro wq hSw; clear hSw; have hlo : (88 : Int) ≤ (cap : Int) := (by omega); have hne : ¬ cap = 80 := (by omega); go_simp; try with_reducible rfl)
  try simp only [List.getElem_toArray, List.getElem_cons_zero, List.getElem_cons_succ, Act.put, List.setIfInBounds_toArray, List.set_cons_zero, List.set_cons_succ]
  refine wpAnyH_ready (rs := [4]) (by kernel_rfl) (by simp) ?_
  refine AllReadyH.cons rfl (fun K hK => ?_) AllReadyH.nil
  try simp only [List.getElem_toArray, List.getElem_cons_zero, List.getElem_cons_succ, Act.put, List.setIfInBounds_toArray, List.set_cons_zero, List.set_cons_succ]
  rw [if_pos (by rfl)]
  go_simp
  refine (bc_uint (F 10) q 80 _ _ (fun j hj => hHeld.1 10 (by omega) j hj)).mono ?_
  rintro e1 w1 ⟨rfl, hb1⟩
  have hg1 := (hb1.block g (Array.getElem?_eq_some_iff.1 hg0).1).trans hg0
  have hS1 := And.intro (hHeld.1.most hq (Most.below hb1)) (hHeld.2.trans (Most.below hb1))
  clear hHeld hg0 hb1
  go_wp2_with fail
  refine hK.out _ _ hS1 (fun hHeld => ?_)
  clear hK K hS1
  try simp only [List.getElem_toArray, List.getElem_cons_zero, List.getElem_cons_succ, Act.put, List.setIfInBounds_toArray, List.set_cons_zero, List.set_cons_succ]
  refine wpAnyH_take (i := 5) (v := ?v10_5) rfl (by kernel_rfl) (by kernel_rfl) (by kernel_rfl) (fun _ _ _ h => h) (Or.inl ⟨by rfl, ?y10_5⟩) hHeld ?r10_5
  case y10_5 => (intro wq hSw; clear hSw; go_simp; try with_reducible rfl)
  try simp only [List.getElem_toArray, List.getElem_cons_zero, List.getElem_cons_succ, Act.put, List.setIfInBounds_toArray, List.set_cons_zero, List.set_cons_succ]
  refine wpAnyH_take (i := 6) (v := ?v10_6) rfl (by kernel_rfl) (by kernel_rfl) (by kernel_rfl) (fun _ _ _ h => h) (Or.inl ⟨by rfl, ?y10_6⟩) hHeld ?r10_6
  case y10_6 => (intro wq hSw; clear hSw; go_simp; try with_reducible rfl)
  try simp only [List.getElem_toArray, List.getElem_cons_zero, List.getElem_cons_succ, Act.put, List.setIfInBounds_toArray, List.set_cons_zero, List.set_cons_succ]
  refine wpAnyH_ready (rs := [7]) (by kernel_rfl) (by simp) ?_
  refine AllReadyH.cons rfl (fun K hK => ?_) AllReadyH.nil
  try simp only [List.getElem_toArray, List.getElem_cons_zero, List.getElem_cons_succ, Act.put, List.setIfInBounds_toArray, List.set_cons_zero, List.set_cons_succ]
  rw [if_pos (by rfl)]
  refine wp_store_one 123 _ _ rfl g 10 (bbv (F 10)) (by rfl) (by rfl) rfl rfl 125 _ hg1 (by simp [brdF]) (by kernel_rfl) ?_
  have hg' := heap_setCell_same w1 g 10 _ _ (bbv (F 10)) hg1
  rw [brdF_set _ _ _ _ _ _ 10 (by omega), mix_step] at hg'
  have hm' := Most.setCell g w1 10 (bbv (F 10))
  have hby := hHeld.1.most hq hm'
  have hM := hHeld.2.trans hm'
  clear hHeld hm' hg1
  generalize w1.setCell ⟨g, 10, none⟩ (bbv (F 10)) = W11 at *
  refine hK.out _ _ ⟨hby, hM⟩ (fun _ => ?_)
  clear hK K
  try simp only [List.getElem_toArray, List.getElem_cons_zero, List.getElem_cons_succ, Act.put, List.setIfInBounds_toArray, List.set_cons_zero, List.set_cons_succ]
  refine wpAnyH_done (by kernel_rfl) ?_ _
  have hg := hg'
  clear hg'
  go_wp2_with fail
  have hg0 : (W11.drew).heap[g]? = some (.cells (brdF (mix F G 11) a b c d e) 125 (0, 0)) := hg
  refine wp_region_held_drew (S := fun w' : World => Lies F q w' ∧ Most g w w') (by kernel_rfl) ⟨hby, hM.trans (Most.below (drewN_below _ 1))⟩ (fun hHeld => ?_)
  clear hby hg hM
  refine wpAnyH_take (i := 0) (v := ?v11_0) rfl (by kernel_rfl) (by kernel_rfl) (by kernel_rfl) (fun _ _ _ h => h) (Or.inl ⟨by rfl, ?y11_0⟩) hHeld ?r11_0
  case y11_0 => (intro wq hSw; clear hSw; go_simp; try with_reducible rfl)
  try simp only [List.getElem_toArray, List.getElem_cons_zero, List.getElem_cons_succ, Act.put, List.setIfInBounds_toArray, List.set_cons_zero, List.set_cons_succ]
  refine wpAnyH_take (i := 1) (v := ?v11_1) rfl (by kernel_rfl) (by kernel_rfl) (by kernel_rfl) (fun _ _ _ h => h) (Or.inl ⟨by rfl, ?y11_1⟩) hHeld ?r11_1
  case y11_1 => (intro wq hSw; clear hSw; go_simp; try with_reducible rfl)
  try simp only [List.getElem_toArray, List.getElem_cons_zero, List.getElem_cons_succ, Act.put, List.setIfInBounds_toArray, List.set_cons_zero, List.set_cons_succ]
  refine wpAnyH_take (i := 2) (v := ?v11_2) rfl (by kernel_rfl) (by kernel_rfl) (by kernel_rfl) (fun _ _ _ h => h) (Or.inl ⟨by rfl, ?y11_2⟩) hHeld ?r11_2
  case y11_2 => (intro wq hSw; clear hSw; go_simp; try with_reducible rfl)
  try simp only [List.getElem_toArray, List.getElem_cons_zero, List.getElem_cons_succ, Act.put, List.setIfInBounds_toArray, List.set_cons_zero, List.set_cons_succ]
  refine wpAnyH_take (i := 3) (v := ?v11_3) rfl (by kernel_rfl) (by kernel_rfl) (by kernel_rfl) (fun _ _ _ h => h) (Or.inl ⟨by rfl, ?y11_3⟩) hHeld ?r11_3
  case y11_3 => (intro wq hSw; clear hSw; have hlo : (96 : Int) ≤ (cap : Int) := (by omega); have hne : ¬ cap = 88 := (by omega); go_simp; try with_reducible rfl)
  try simp only [List.getElem_toArray, List.getElem_cons_zero, List.getElem_cons_succ, Act.put, List.setIfInBounds_toArray, List.set_cons_zero, List.set_cons_succ]
  refine wpAnyH_ready (rs := [4]) (by kernel_rfl) (by simp) ?_
  refine AllReadyH.cons rfl (fun K hK => ?_) AllReadyH.nil
  try simp only [List.getElem_toArray, List.getElem_cons_zero, List.getElem_cons_succ, Act.put, List.setIfInBounds_toArray, List.set_cons_zero, List.set_cons_succ]
  rw [if_pos (by rfl)]
  go_simp
  refine (bc_uint (F 11) q 88 _ _ (fun j hj => hHeld.1 11 (by omega) j hj)).mono ?_
  rintro e1 w1 ⟨rfl, hb1⟩
  have hg1 := (hb1.block g (Array.getElem?_eq_some_iff.1 hg0).1).trans hg0
  have hS1 := And.intro (hHeld.1.most hq (Most.below hb1)) (hHeld.2.trans (Most.below hb1))
  clear hHeld hg0 hb1
  go_wp2_with fail
  refine hK.out _ _ hS1 (fun hHeld => ?_)
  clear hK K hS1
  try simp only [List.getElem_toArray, List.getElem_cons_zero, List.getElem_cons_succ, Act.put, List.setIfInBounds_toArray, List.set_cons_zero, List.set_cons_succ]
  refine wpAnyH_take (i := 5) (v := ?v11_5) rfl (by kernel_rfl) (by kernel_rfl) (by kernel_rfl) (fun _ _ _ h => h) (Or.inl ⟨by rfl, ?y11_5⟩) hHeld ?r11_5
  case y11_5 => (intro wq hSw; clear hSw; go_simp; try with_reducible rfl)
  try simp only [List.getElem_toArray, List.getElem_cons_zero, List.getElem_cons_succ, Act.put, List.setIfInBounds_toArray, List.set_cons_zero, List.set_cons_succ]
  refine wpAnyH_take (i := 6) (v := ?v11_6) rfl (by kernel_rfl) (by kernel_rfl) (by kernel_rfl) (fun _ _ _ h => h) (Or.inl ⟨by rfl, ?y11_6⟩) hHeld ?r11_6
  case y11_6 => (intro wq hSw; clear hSw; go_simp; try with_reducible rfl)
  try simp only [List.getElem_toArray, List.getElem_cons_zero, List.getElem_cons_succ, Act.put, List.setIfInBounds_toArray, List.set_cons_zero, List.set_cons_succ]
  refine wpAnyH_ready (rs := [7]) (by kernel_rfl) (by simp) ?_
  refine AllReadyH.cons rfl (fun K hK => ?_) AllReadyH.nil
  try simp only [List.getElem_toArray, List.getElem_cons_zero, List.getElem_cons_succ, Act.put, List.setIfInBounds_toArray, List.set_cons_zero, List.set_cons_succ]
  rw [if_pos (by rfl)]
  refine wp_store_one 123 _ _ rfl g 11 (bbv (F 11)) (by rfl) (by rfl) rfl rfl 125 _ hg1 (by simp [brdF]) (by kernel_rfl) ?_
  have hg' := heap_setCell_same w1 g 11 _ _ (bbv (F 11)) hg1
  rw [brdF_set _ _ _ _ _ _ 11 (by omega), mix_step] at hg'
  have hm' := Most.setCell g w1 11 (bbv (F 11))
  have hby := hHeld.1.most hq hm'
  have hM := hHeld.2.trans hm'
  clear hHeld hm' hg1
  generalize w1.setCell ⟨g, 11, none⟩ (bbv (F 11)) = W12 at *
  refine hK.out _ _ ⟨hby, hM⟩ (fun _ => ?_)
  clear hK K
  try simp only [List.getElem_toArray, List.getElem_cons_zero, List.getElem_cons_succ, Act.put, List.setIfInBounds_toArray, List.set_cons_zero, List.set_cons_succ]
  refine wpAnyH_done (by kernel_rfl) ?_ _
  have hg := hg'
  clear hg'
  go_wp2_with fail
  rw [mix_all, ← hF] at hg
  refine (bo_calc p a b c d e ha g _ hg).mono ?_
  rintro e1 w1 ⟨rfl, hg1, hO1⟩
  have hM1 := hM.trans (Most.only hO1 (only_size hO1 hg1))
  clear hM hO1 hg hby
  go_wp2_with fail
  go_ret
  exact ⟨rfl, hg1, hM1⟩
end Go.Proofs.YtplkcmlpomjojaaGreatDoor
