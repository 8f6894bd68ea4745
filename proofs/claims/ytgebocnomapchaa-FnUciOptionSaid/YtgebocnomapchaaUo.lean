/- FnUciOption: what an engine tells of an option: the reference's reading. -/
import Derived.Test.YtgebocnomapchaaUw
namespace Go.Proofs.Ytgebocnomapchaa
open Go Go.RowKit
set_option maxHeartbeats 4000000
set_option linter.unusedSimpArgs false
set_option linter.unusedVariables false
set_option maxRecDepth 100000

/-- An option as it is read. -/
structure OptS where
  name : List UInt8
  typ : List UInt8
  dflt : List UInt8
  lo : List UInt8
  hi : List UInt8
  vars : List (List UInt8)
def optZero : OptS := ⟨[], [], [], [], [], []⟩
def wName : List UInt8 := [110, 97, 109, 101]
def wType : List UInt8 := [116, 121, 112, 101]
def wDefault : List UInt8 := [100, 101, 102, 97, 117, 108, 116]
def wMin : List UInt8 := [109, 105, 110]
def wMax : List UInt8 := [109, 97, 120]
def wVar : List UInt8 := [118, 97, 114]
def optTypes : List (List UInt8) := [[99, 104, 101, 99, 107], [115, 112, 105, 110], [99, 111, 109, 98, 111], [98, 117, 116, 116, 111, 110], [115, 116, 114, 105, 110, 103]]
/-- One name and its value. -/
def optPut (r s : List UInt8) (x : OptS) : Option OptS :=
  if r = wName then some { x with name := s }
  else if r = wType then (if s ∈ optTypes then some { x with typ := s } else none)
  else if r = wDefault then some { x with dflt := s }
  else if r = wMin then some { x with lo := s }
  else if r = wMax then some { x with hi := s }
  else if r = wVar then some { x with vars := x.vars ++ [s] }
  else some x
def optRun : List (List UInt8) → List UInt8 → OptS → Option OptS
  | [], _, x => some x
  | s :: l, r, x => if r = [] then optRun l s x else (optPut r s x).bind (optRun l [])
/-- What a line about an option tells. -/
def optRead (l : List UInt8) : Option OptS :=
  match words l with
  | o :: ws => if o = [111, 112, 116, 105, 111, 110] then (optRun ws [] optZero).bind fun x => if x.name = [] ∨ x.typ = [] then none else some x else none
  | [] => none
/-- The cells of an option. -/
def optCells (x : OptS) (v : Value) : Array Value := #[.string (bs x.name), .string (bs x.typ), .string (bs x.dflt), .string (bs x.lo), .string (bs x.hi), v]

theorem optCells_one (x : OptS) (v : Value) (hv : v.oneCell' = true) : (optCells x v).all (·.oneCell') = true := by
  rw [Array.all_eq_true_iff_forall_mem]
  intro y hy
  simp [optCells] at hy
  rcases hy with rfl | rfl | rfl | rfl | rfl | rfl
  all_goals first | exact hv | rfl
theorem own_row {w : World} {base : Nat} {e : TypeId} {size : Nat} {v : Value} {n : Nat} {xs : List Value} (h : w.ownsRow base e size v n xs) (g : Nat) (hne : ∀ q, v.ownBlock = some q → q ≠ g) (cs : Array Value) : (w.setRow g cs).ownsRow base e size v n xs := by
  obtain ⟨h1, h2 | ⟨g', cap, cur, a1, b, c, d⟩⟩ := h
  · exact ⟨h1, Or.inl h2⟩
  · exact ⟨h1, Or.inr ⟨g', cap, cur, a1, b, (setRow_other w g g' cs (hne g' (by rw [a1]; rfl))).trans c, d⟩⟩
theorem own_set {w : World} {base : Nat} {e : TypeId} {size : Nat} {v : Value} {n : Nat} {xs : List Value} (h : w.ownsRow base e size v n xs) (a : Addr) (ha : a.block < base) (u : Value) : (w.setCell a u).ownsRow base e size v n xs := by
  obtain ⟨h1, h2 | ⟨g, cap, cur, a1, b, c, d⟩⟩ := h
  · exact ⟨h1, Or.inl h2⟩
  · exact ⟨h1, Or.inr ⟨g, cap, cur, a1, b, (heap_setCell_other w a g u (by omega)).trans c, d⟩⟩
theorem uo_spec (l : List UInt8) (w : World) (hl : l.length ≤ 1000) :
    Calls Try.prog 16 #[.string (bs l)] w fun e w' =>
      Below w.heap.size w w' ∧
      ((optRead l = none ∧ ∃ n : Nat, e = .returned (.tuple #[.agg (optCells optZero (.slice none n n)), .bool false])) ∨
       ∃ x v, optRead l = some x ∧ e = .returned (.tuple #[.agg (optCells x v), .bool true]) ∧ w'.ownsRow w.heap.size 9 1 v x.vars.length (strsV x.vars)) := by
  obtain ⟨i0, hi, hz0, hz1, hz2⟩ := info_parts uw_info
  have hwl := words_le l
  have hwn := words_ne l
  have hrd : optRead l = (match words l with | o :: ws => if o = [111, 112, 116, 105, 111, 110] then (optRun ws [] optZero).bind fun x => if x.name = [] ∨ x.typ = [] then none else some x else none | [] => none) := rfl
  go_enter Try.func16, Try.ntmps16
  go_wp2_with fail
  refine (uw_words l _ hl).mono ?_
  rintro e w1 ⟨vw, rfl, hown, q1⟩
  generalize words l = ws at *
  obtain ⟨o, tl, rfl⟩ : ∃ o tl, ws = o :: tl := by cases ws with | nil => exact absurd rfl hwn | cons a b => exact ⟨a, b, rfl⟩
  obtain ⟨g, cap, rfl, hg0, hg1⟩ := hown.form (by simp)
  have hcell : ∀ i, i < (o :: tl).length → w1.cell? ⟨g, i, none⟩ = some (.string (bs ((o :: tl).getD i []))) := fun i hi => by
    rw [hown.cellAt i (by omega)]
    rw [strsV, List.getElem?_map]
    simp only [List.getD, List.getElem?_eq_getElem hi, Option.map_some, Option.getD_some]
  have hza : ((w.alloc (.cells (optCells optZero (.slice none 0 0)) 40)).alloc (.cells (optCells optZero (.slice none 0 0)) 40)).heap.size = w.heap.size + 2 := by simp
  have hsz1 := q1.size
  have hx1 : w1.heap[w.heap.size + 1]? = some (.cells (optCells optZero (.slice none 0 0)) 40 (0, 0)) := (q1.block _ (by simp)).trans (heap_alloc2_new w _ _)
  have hx0 : w1.heap[w.heap.size]? = some (.cells (optCells optZero (.slice none 0 0)) 40 (0, 0)) := (q1.block _ (by simp; omega)).trans (heap_alloc2_old w _ _)
  have hb1 : Below w.heap.size w w1 := (((Below.refl _ _).alloc (Nat.le_refl _) _).alloc (by simp) _).trans (q1.mono (by simp; omega))
  simp only [World.size_alloc] at hg0 hsz1
  have c0 := hcell 0 (by simp)
  simp only [List.getD_cons_zero] at c0
  have hlist : ∀ r : List UInt8, (bs r).toList = r := bs_list
  by_cases ho : o = [111, 112, 116, 105, 111, 110]
  · subst ho
    have hr1 : optRead l = (optRun tl [] optZero).bind fun x => if x.name = [] ∨ x.typ = [] then none else some x := by rw [hrd]; simp
    clear hrd
    generalize hT : optRun tl [] optZero = total at *
    go_wp2_with fail
    go_loopw [6, 7] (fun rv i wr => ∃ (k : Nat) (r : List UInt8) (x : OptS) (v : Value), 1 ≤ k ∧ k ≤ tl.length + 1 ∧ i = .int .i64 (k : Int) ∧ rv = .string (bs r) ∧ wr.heap[w.heap.size + 1]? = some (.cells (optCells x v) 40 (0, 0)) ∧ wr.heap[w.heap.size]? = some (.cells (optCells optZero (.slice none 0 0)) 40 (0, 0)) ∧ wr.ownsRow w1.heap.size 9 1 v x.vars.length (strsV x.vars) ∧ x.vars.length ≤ k ∧ wr.heap[g]? = w1.heap[g]? ∧ optRun (tl.drop (k - 1)) r x = total ∧ Below w.heap.size w wr ∧ w1.heap.size ≤ wr.heap.size) (fun _ i _ => (tl.length + 1 - (intOf i).toNat))
    case atStart => exact ⟨1, [], optZero, .slice none 0 0, by omega, by omega, rfl, rfl, hx1, hx0, World.ownsRow_nil _ _ _ _, by simp [optZero], rfl, by simpa using hT, hb1, Nat.le_refl _⟩
    case round =>
      obtain ⟨k, r, x, v, hk1, hk, rfl, rfl, hx, hz, hown, hvk, hgw, ht, hbr, hbase⟩ := hrel
      have htl : tl.length ≤ 1000 := by simp at hwl; omega
      by_cases hlt : k < tl.length + 1
      · have hwc : wr.cell? ⟨g, k, none⟩ = some (.string (bs (tl.getD (k - 1) []))) := by
          have h1 := hcell k (by simp; omega)
          have h2 : wr.cell? ⟨g, k, none⟩ = w1.cell? ⟨g, k, none⟩ := World.cell?_of_block hgw
          rw [h2, h1]
          obtain ⟨j, rfl⟩ : ∃ j, k = j + 1 := ⟨k - 1, by omega⟩
          simp [List.getD]
        have hdr : tl.drop (k - 1) = tl.getD (k - 1) [] :: tl.drop k := by
          rw [List.drop_eq_getElem_cons (by omega), show k - 1 + 1 = k by omega]
          simp [List.getD, List.getElem?_eq_getElem (show k - 1 < tl.length by omega)]
        rw [hdr] at ht
        clear hdr
        generalize tl.getD (k - 1) [] = s at *
        have cx0 := cell_of_row wr (w.heap.size + 1) 0 _ _ _ hx
        have fx0 := frozen_of_row wr (w.heap.size + 1) 0 _ _ hx
        have cx1 := cell_of_row wr (w.heap.size + 1) 1 _ _ _ hx
        have fx1 := frozen_of_row wr (w.heap.size + 1) 1 _ _ hx
        have cx2 := cell_of_row wr (w.heap.size + 1) 2 _ _ _ hx
        have fx2 := frozen_of_row wr (w.heap.size + 1) 2 _ _ hx
        have cx3 := cell_of_row wr (w.heap.size + 1) 3 _ _ _ hx
        have fx3 := frozen_of_row wr (w.heap.size + 1) 3 _ _ hx
        have cx4 := cell_of_row wr (w.heap.size + 1) 4 _ _ _ hx
        have fx4 := frozen_of_row wr (w.heap.size + 1) 4 _ _ hx
        have cx5 := cell_of_row wr (w.heap.size + 1) 5 _ _ _ hx
        have fx5 := frozen_of_row wr (w.heap.size + 1) 5 _ _ hx
        simp only [optCells] at cx0 cx1 cx2 cx3 cx4 cx5
        simp at cx0 cx1 cx2 cx3 cx4 cx5
        by_cases hr0 : r = []
        · subst hr0
          have htS : True → optRun (tl.drop (k + 1 - 1)) s x = total := fun _ => by rw [← ht, optRun, if_pos rfl]; simp
          clear ht
          go_wp2_with fail
          go_roundw
          case rel => exact ⟨k + 1, s, x, v, by omega, by omega, by go_num, rfl, hx, hz, hown, by omega, hgw, htS trivial, hbr, hbase⟩
          case measure => simp [intOf]; omega
        have n0 : (r == []) = false := by simp [hr0]
        rw [optRun, if_neg hr0] at ht
        by_cases h1 : r = [110, 97, 109, 101]
        · subst h1
          have htS : True → optRun (tl.drop (k + 1 - 1)) [] { x with name := s } = total := fun _ => by rw [← ht]; rfl
          clear ht
          have hset := heap_setCell_same wr (w.heap.size + 1) 0 _ _ (.string (bs s)) hx
          have hoth := heap_setCell_other wr ⟨w.heap.size + 1, 0, none⟩ w.heap.size (.string (bs s)) (by simp)
          have hothg := heap_setCell_other wr ⟨w.heap.size + 1, 0, none⟩ g (.string (bs s)) (by simp; omega)
          have hown2 := own_set hown ⟨w.heap.size + 1, 0, none⟩ (by show w.heap.size + 1 < w1.heap.size; omega) (.string (bs s))
          have hbs := hbr.setCell (p := ⟨w.heap.size + 1, 0, none⟩) (by simp) (.string (bs s))
          obtain ⟨x', hset2, hown3, hv3, htS2⟩ : ∃ x' : OptS, (wr.setCell ⟨w.heap.size + 1, 0, none⟩ (.string (bs s))).heap[w.heap.size + 1]? = some (.cells (optCells x' v) 40 (0, 0)) ∧ (wr.setCell ⟨w.heap.size + 1, 0, none⟩ (.string (bs s))).ownsRow w1.heap.size 9 1 v x'.vars.length (strsV x'.vars) ∧ x'.vars.length ≤ k ∧ (True → optRun (tl.drop (k + 1 - 1)) [] x' = total) := ⟨{ x with name := s }, hset, hown2, hvk, htS⟩
          have hz2 := hoth.trans hz
          have hg2 := hothg.trans hgw
          clear hset hown2 htS hoth hothg
          clear hown hbr hx hz
          go_wp2_with fail
          go_roundw
          case rel =>
            exact ⟨k + 1, [], x', v, by omega, by omega, by go_num, rfl, hset2, hz2, hown3, Nat.le_succ_of_le hv3, hg2, htS2 trivial, hbs, by simpa using hbase⟩
          case measure => simp [intOf]; omega
        have n1 : (r == [110, 97, 109, 101]) = false := by simp [h1]
        by_cases h2 : r = [116, 121, 112, 101]
        · subst h2
          by_cases hs : s ∈ optTypes
          · have htS : True → optRun (tl.drop (k + 1 - 1)) [] { x with typ := s } = total := fun _ => by rw [← ht]; simp [optPut, wName, wType, hs]
            clear ht
            have hset := heap_setCell_same wr (w.heap.size + 1) 1 _ _ (.string (bs s)) hx
            have hoth := heap_setCell_other wr ⟨w.heap.size + 1, 1, none⟩ w.heap.size (.string (bs s)) (by simp)
            have hothg := heap_setCell_other wr ⟨w.heap.size + 1, 1, none⟩ g (.string (bs s)) (by simp; omega)
            have hown2 := own_set hown ⟨w.heap.size + 1, 1, none⟩ (by show w.heap.size + 1 < w1.heap.size; omega) (.string (bs s))
            have hbs := hbr.setCell (p := ⟨w.heap.size + 1, 1, none⟩) (by simp) (.string (bs s))
            obtain ⟨x', hset2, hown3, hv3, htS2⟩ : ∃ x' : OptS, (wr.setCell ⟨w.heap.size + 1, 1, none⟩ (.string (bs s))).heap[w.heap.size + 1]? = some (.cells (optCells x' v) 40 (0, 0)) ∧ (wr.setCell ⟨w.heap.size + 1, 1, none⟩ (.string (bs s))).ownsRow w1.heap.size 9 1 v x'.vars.length (strsV x'.vars) ∧ x'.vars.length ≤ k ∧ (True → optRun (tl.drop (k + 1 - 1)) [] x' = total) := ⟨{ x with typ := s }, hset, hown2, hvk, htS⟩
            have hz2 := hoth.trans hz
            have hg2 := hothg.trans hgw
            clear hset hown2 htS hoth hothg
            have hmem : (s == [99, 104, 101, 99, 107] || s == [115, 112, 105, 110] || s == [99, 111, 109, 98, 111] || s == [98, 117, 116, 116, 111, 110] || s == [115, 116, 114, 105, 110, 103]) = true := by simpa [optTypes, or_assoc] using hs
            simp only [optTypes, List.mem_cons, List.not_mem_nil, or_false] at hs
            rcases hs with rfl | rfl | rfl | rfl | rfl
            all_goals
              clear hown hbr hx hz
              go_wp2_with fail
              go_roundw
              case rel =>
                exact ⟨k + 1, [], x', v, by omega, by omega, by go_num, rfl, hset2, hz2, hown3, Nat.le_succ_of_le hv3, hg2, htS2 trivial, hbs, by simpa using hbase⟩
              case measure => simp [intOf]; omega
          · have hnone : total = none := by rw [← ht]; simp [optPut, wName, wType, hs]
            have hnr : optRead l = none := by rw [hr1, hnone]; rfl
            clear ht hr1
            have m0 : (s == [99, 104, 101, 99, 107]) = false := by simp; intro h; exact hs (by simp [optTypes, h])
            have m1 : (s == [115, 112, 105, 110]) = false := by simp; intro h; exact hs (by simp [optTypes, h])
            have m2 : (s == [99, 111, 109, 98, 111]) = false := by simp; intro h; exact hs (by simp [optTypes, h])
            have m3 : (s == [98, 117, 116, 116, 111, 110]) = false := by simp; intro h; exact hs (by simp [optTypes, h])
            have m4 : (s == [115, 116, 114, 105, 110, 103]) = false := by simp; intro h; exact hs (by simp [optTypes, h])
            go_wp2_with ((with_reducible refine at_store_row (optCells optZero (.slice none 0 0)) hz ?_ ?_ ?_ ?_ ?_ ?_); kernel_rfl; rfl; exact optCells_one _ _ rfl; rfl; rfl)
            exact bodyPost_ret (results_cell_tmp rfl _ _ w.heap.size 40 _ (0, 0) _ rfl (setRow_heap _ _ _ (optCells optZero (.slice none 0 0)) _ _ hz) Try.underlying40 rfl (by kernel_rfl) (.bool false) rfl) rfl ⟨below_setRow' hbr (Nat.le_refl _) _, Or.inl ⟨hnr, _, rfl⟩⟩
        have n2 : (r == [116, 121, 112, 101]) = false := by simp [h2]
        by_cases h3 : r = [100, 101, 102, 97, 117, 108, 116]
        · subst h3
          have htS : True → optRun (tl.drop (k + 1 - 1)) [] { x with dflt := s } = total := fun _ => by rw [← ht]; rfl
          clear ht
          have hset := heap_setCell_same wr (w.heap.size + 1) 2 _ _ (.string (bs s)) hx
          have hoth := heap_setCell_other wr ⟨w.heap.size + 1, 2, none⟩ w.heap.size (.string (bs s)) (by simp)
          have hothg := heap_setCell_other wr ⟨w.heap.size + 1, 2, none⟩ g (.string (bs s)) (by simp; omega)
          have hown2 := own_set hown ⟨w.heap.size + 1, 2, none⟩ (by show w.heap.size + 1 < w1.heap.size; omega) (.string (bs s))
          have hbs := hbr.setCell (p := ⟨w.heap.size + 1, 2, none⟩) (by simp) (.string (bs s))
          obtain ⟨x', hset2, hown3, hv3, htS2⟩ : ∃ x' : OptS, (wr.setCell ⟨w.heap.size + 1, 2, none⟩ (.string (bs s))).heap[w.heap.size + 1]? = some (.cells (optCells x' v) 40 (0, 0)) ∧ (wr.setCell ⟨w.heap.size + 1, 2, none⟩ (.string (bs s))).ownsRow w1.heap.size 9 1 v x'.vars.length (strsV x'.vars) ∧ x'.vars.length ≤ k ∧ (True → optRun (tl.drop (k + 1 - 1)) [] x' = total) := ⟨{ x with dflt := s }, hset, hown2, hvk, htS⟩
          have hz2 := hoth.trans hz
          have hg2 := hothg.trans hgw
          clear hset hown2 htS hoth hothg
          clear hown hbr hx hz
          go_wp2_with fail
          go_roundw
          case rel =>
            exact ⟨k + 1, [], x', v, by omega, by omega, by go_num, rfl, hset2, hz2, hown3, Nat.le_succ_of_le hv3, hg2, htS2 trivial, hbs, by simpa using hbase⟩
          case measure => simp [intOf]; omega
        have n3 : (r == [100, 101, 102, 97, 117, 108, 116]) = false := by simp [h3]
        by_cases h4 : r = [109, 105, 110]
        · subst h4
          have htS : True → optRun (tl.drop (k + 1 - 1)) [] { x with lo := s } = total := fun _ => by rw [← ht]; rfl
          clear ht
          have hset := heap_setCell_same wr (w.heap.size + 1) 3 _ _ (.string (bs s)) hx
          have hoth := heap_setCell_other wr ⟨w.heap.size + 1, 3, none⟩ w.heap.size (.string (bs s)) (by simp)
          have hothg := heap_setCell_other wr ⟨w.heap.size + 1, 3, none⟩ g (.string (bs s)) (by simp; omega)
          have hown2 := own_set hown ⟨w.heap.size + 1, 3, none⟩ (by show w.heap.size + 1 < w1.heap.size; omega) (.string (bs s))
          have hbs := hbr.setCell (p := ⟨w.heap.size + 1, 3, none⟩) (by simp) (.string (bs s))
          obtain ⟨x', hset2, hown3, hv3, htS2⟩ : ∃ x' : OptS, (wr.setCell ⟨w.heap.size + 1, 3, none⟩ (.string (bs s))).heap[w.heap.size + 1]? = some (.cells (optCells x' v) 40 (0, 0)) ∧ (wr.setCell ⟨w.heap.size + 1, 3, none⟩ (.string (bs s))).ownsRow w1.heap.size 9 1 v x'.vars.length (strsV x'.vars) ∧ x'.vars.length ≤ k ∧ (True → optRun (tl.drop (k + 1 - 1)) [] x' = total) := ⟨{ x with lo := s }, hset, hown2, hvk, htS⟩
          have hz2 := hoth.trans hz
          have hg2 := hothg.trans hgw
          clear hset hown2 htS hoth hothg
          clear hown hbr hx hz
          go_wp2_with fail
          go_roundw
          case rel =>
            exact ⟨k + 1, [], x', v, by omega, by omega, by go_num, rfl, hset2, hz2, hown3, Nat.le_succ_of_le hv3, hg2, htS2 trivial, hbs, by simpa using hbase⟩
          case measure => simp [intOf]; omega
        have n4 : (r == [109, 105, 110]) = false := by simp [h4]
        by_cases h5 : r = [109, 97, 120]
        · subst h5
          have htS : True → optRun (tl.drop (k + 1 - 1)) [] { x with hi := s } = total := fun _ => by rw [← ht]; rfl
          clear ht
          have hset := heap_setCell_same wr (w.heap.size + 1) 4 _ _ (.string (bs s)) hx
          have hoth := heap_setCell_other wr ⟨w.heap.size + 1, 4, none⟩ w.heap.size (.string (bs s)) (by simp)
          have hothg := heap_setCell_other wr ⟨w.heap.size + 1, 4, none⟩ g (.string (bs s)) (by simp; omega)
          have hown2 := own_set hown ⟨w.heap.size + 1, 4, none⟩ (by show w.heap.size + 1 < w1.heap.size; omega) (.string (bs s))
          have hbs := hbr.setCell (p := ⟨w.heap.size + 1, 4, none⟩) (by simp) (.string (bs s))
          obtain ⟨x', hset2, hown3, hv3, htS2⟩ : ∃ x' : OptS, (wr.setCell ⟨w.heap.size + 1, 4, none⟩ (.string (bs s))).heap[w.heap.size + 1]? = some (.cells (optCells x' v) 40 (0, 0)) ∧ (wr.setCell ⟨w.heap.size + 1, 4, none⟩ (.string (bs s))).ownsRow w1.heap.size 9 1 v x'.vars.length (strsV x'.vars) ∧ x'.vars.length ≤ k ∧ (True → optRun (tl.drop (k + 1 - 1)) [] x' = total) := ⟨{ x with hi := s }, hset, hown2, hvk, htS⟩
          have hz2 := hoth.trans hz
          have hg2 := hothg.trans hgw
          clear hset hown2 htS hoth hothg
          clear hown hbr hx hz
          go_wp2_with fail
          go_roundw
          case rel =>
            exact ⟨k + 1, [], x', v, by omega, by omega, by go_num, rfl, hset2, hz2, hown3, Nat.le_succ_of_le hv3, hg2, htS2 trivial, hbs, by simpa using hbase⟩
          case measure => simp [intOf]; omega
        have n5 : (r == [109, 97, 120]) = false := by simp [h5]
        by_cases h6 : r = [118, 97, 114]
        · subst h6
          have htS : True → optRun (tl.drop (k + 1 - 1)) [] { x with vars := x.vars ++ [s] } = total := fun _ => by rw [← ht]; rfl
          clear ht
          have cxa : ∀ ob, (wr.alloc ob).cell? ⟨w.heap.size + 1, 5, none⟩ = some v := fun ob => cell_of_row _ _ 5 _ _ _ ((heap_alloc_old wr ob (show w.heap.size + 1 < wr.heap.size by omega)).trans hx)
          go_wp2_with fail
          go_region_law (refine step_append1 (w := wr.drew) rfl _ _ rfl Try.underlying38 hi hz0 hz1 hz2 rfl (by decide) rfl w1.heap.size v _ _ hown (by omega) hbase rfl rfl ?_; intro v2 w2 hown' hb'; have hx2 : w2.heap[w.heap.size + 1]? = some (.cells (optCells x v) 40 (0, 0)) := (hb'.block (w.heap.size + 1) (by omega)).trans hx; have c5 : w2.cell? ⟨w.heap.size + 1, 5, none⟩ = some v := cell_of_row w2 (w.heap.size + 1) 5 _ _ _ hx2; have f5 := frozen_of_row w2 (w.heap.size + 1) 5 _ _ hx2; obtain ⟨g2, cap2, hv2, _, _⟩ := hown'.form (by omega); subst hv2)
          all_goals
            have hset : (w2.setCell ⟨w.heap.size + 1, 5, none⟩ (.slice (some ⟨g2, 0, none⟩) (x.vars.length + 1) cap2)).heap[w.heap.size + 1]? = some (.cells (optCells { x with vars := x.vars ++ [s] } (.slice (some ⟨g2, 0, none⟩) (x.vars.length + 1) cap2)) 40 (0, 0)) := heap_setCell_same w2 (w.heap.size + 1) 5 _ _ (.slice (some ⟨g2, 0, none⟩) (x.vars.length + 1) cap2) hx2
            have hoth := heap_setCell_other w2 ⟨w.heap.size + 1, 5, none⟩ w.heap.size (.slice (some ⟨g2, 0, none⟩) (x.vars.length + 1) cap2) (by simp)
            have hothg := heap_setCell_other w2 ⟨w.heap.size + 1, 5, none⟩ g (.slice (some ⟨g2, 0, none⟩) (x.vars.length + 1) cap2) (by simp; omega)
            have hown2 := own_set hown' ⟨w.heap.size + 1, 5, none⟩ (by show w.heap.size + 1 < w1.heap.size; omega) (.slice (some ⟨g2, 0, none⟩) (x.vars.length + 1) cap2)
            have hz2 := hoth.trans ((hb'.block w.heap.size (by omega)).trans hz)
            have hg2 := hothg.trans ((hb'.block g hg1).trans hgw)
            have hbq : Below w.heap.size w w2 := (hbr.trans (Below.mono (drewN_below wr 1) hbr.size)).trans (hb'.mono (by omega))
            have hbs := hbq.setCell (p := ⟨w.heap.size + 1, 5, none⟩) (by simp) (.slice (some ⟨g2, 0, none⟩) (x.vars.length + 1) cap2)
            have hb3 : w1.heap.size ≤ (w2.setCell ⟨w.heap.size + 1, 5, none⟩ (.slice (some ⟨g2, 0, none⟩) (x.vars.length + 1) cap2)).heap.size := by simpa using Nat.le_trans hbase hb'.size
            have hown3 : (w2.setCell ⟨w.heap.size + 1, 5, none⟩ (.slice (some ⟨g2, 0, none⟩) (x.vars.length + 1) cap2)).ownsRow w1.heap.size 9 1 (.slice (some ⟨g2, 0, none⟩) (x.vars.length + 1) cap2) (x.vars ++ [s]).length (strsV (x.vars ++ [s])) := by rw [List.length_append, strsV, List.map_append]; exact hown2
            clear hown hown' hbr hb' hx hz hoth hothg hown2 c5 f5 hx2 hbq cx0 cx1 cx2 cx3 cx4 cx5 fx0 fx1 fx2 fx3 fx4 fx5
            go_wp2_with fail
            go_roundw
            case rel =>
              exact ⟨k + 1, [], { x with vars := x.vars ++ [s] }, (.slice (some ⟨g2, 0, none⟩) (x.vars.length + 1) cap2), by omega, by omega, by go_num, rfl, hset, hz2, hown3, by simp; omega, hg2, htS trivial, hbs, hb3⟩
            case measure => simp [intOf]; omega
        have n6 : (r == [118, 97, 114]) = false := by simp [h6]
        have htS : True → optRun (tl.drop (k + 1 - 1)) [] x = total := fun _ => by rw [← ht]; simp [optPut, wName, wType, wDefault, wMin, wMax, wVar, h1, h2, h3, h4, h5, h6]
        clear ht
        go_wp2_with fail
        go_roundw
        case rel => exact ⟨k + 1, [], x, v, by omega, by omega, by go_num, rfl, hx, hz, hown, by omega, hgw, htS trivial, hbr, hbase⟩
        case measure => simp [intOf]; omega
      · obtain rfl : k = tl.length + 1 := by omega
        have hfin : total = some x := by rw [← ht]; simp [optRun]
        clear ht
        have cx0 : wr.cell? ⟨w.heap.size + 1, 0, none⟩ = some (.string (bs x.name)) := cell_of_row wr (w.heap.size + 1) 0 _ _ _ hx
        have cx1 : wr.cell? ⟨w.heap.size + 1, 1, none⟩ = some (.string (bs x.typ)) := cell_of_row wr (w.heap.size + 1) 1 _ _ _ hx
        by_cases hnm : x.name = []
        · have hnr : optRead l = none := by rw [hr1, hfin]; simp [hnm]
          clear hr1
          rw [hnm] at cx0
          go_wp2_with ((with_reducible refine at_store_row (optCells optZero (.slice none 0 0)) hz ?_ ?_ ?_ ?_ ?_ ?_); kernel_rfl; rfl; exact optCells_one _ _ rfl; rfl; rfl)
          exact bodyPost_ret (results_cell_tmp rfl _ _ w.heap.size 40 _ (0, 0) _ rfl (setRow_heap _ _ _ (optCells optZero (.slice none 0 0)) _ _ hz) Try.underlying40 rfl (by kernel_rfl) (.bool false) rfl) rfl ⟨below_setRow' hbr (Nat.le_refl _) _, Or.inl ⟨hnr, _, rfl⟩⟩
        have b0 : (x.name == []) = false := by simp [hnm]
        by_cases hty : x.typ = []
        · have hnr : optRead l = none := by rw [hr1, hfin]; simp [hty]
          clear hr1
          rw [hty] at cx1
          go_wp2_with ((with_reducible refine at_store_row (optCells optZero (.slice none 0 0)) hz ?_ ?_ ?_ ?_ ?_ ?_); kernel_rfl; rfl; exact optCells_one _ _ rfl; rfl; rfl)
          exact bodyPost_ret (results_cell_tmp rfl _ _ w.heap.size 40 _ (0, 0) _ rfl (setRow_heap _ _ _ (optCells optZero (.slice none 0 0)) _ _ hz) Try.underlying40 rfl (by kernel_rfl) (.bool false) rfl) rfl ⟨below_setRow' hbr (Nat.le_refl _) _, Or.inl ⟨hnr, _, rfl⟩⟩
        have b1 : (x.typ == []) = false := by simp [hty]
        have hnr : optRead l = some x := by rw [hr1, hfin]; simp [hnm, hty]
        clear hr1
        have hv1 : v.oneCell' = true := by rcases hown.2 with ⟨rfl, _⟩ | ⟨_, _, _, rfl, _⟩ <;> rfl
        go_wp2_with (first | ((with_reducible refine at_load_row hx Try.underlying40 rfl ?_ ?_ ?_); kernel_rfl; rfl) | ((with_reducible refine at_store_row (optCells x v) hz ?_ ?_ ?_ ?_ ?_ ?_); kernel_rfl; rfl; exact optCells_one _ _ hv1; rfl; rfl))
        refine bodyPost_ret (results_cell_tmp rfl _ _ w.heap.size 40 _ (0, 0) _ rfl (setRow_heap _ _ _ (optCells x v) _ _ hz) Try.underlying40 rfl (by kernel_rfl) (.bool true) rfl) rfl ⟨below_setRow' hbr (Nat.le_refl _) _, Or.inr ⟨x, v, hnr, rfl, ?_⟩⟩
        exact own_row (own_mono hown (by omega)) w.heap.size (fun q hq => by have := own_ge hown q hq; omega) _
  · have hne : (o == [111, 112, 116, 105, 111, 110]) = false := by simp [ho]
    have hnone : optRead l = none := by rw [hrd]; simp [ho]
    clear hrd
    go_wp2_with (first | ((with_reducible refine at_load_row hx1 Try.underlying40 rfl ?_ ?_ ?_); kernel_rfl; rfl) | ((with_reducible refine at_store_row (optCells optZero (.slice none 0 0)) hx0 ?_ ?_ ?_ ?_ ?_ ?_); kernel_rfl; rfl; exact optCells_one _ _ rfl; rfl; rfl))
    exact bodyPost_ret (results_cell_tmp rfl _ _ w.heap.size 40 _ (0, 0) _ rfl (setRow_heap _ _ _ (optCells optZero (.slice none 0 0)) _ _ hx0) Try.underlying40 rfl (by kernel_rfl) (.bool false) rfl) rfl ⟨below_setRow' hb1 (Nat.le_refl _) _, Or.inl ⟨hnone, _, rfl⟩⟩
end Go.Proofs.Ytgebocnomapchaa
