/- FnUciOption: what an engine tells of an option: the package's reading, UnmarshalText. -/
import Derived.Test.YtgebocnomapchaaUe
import Derived.Laws.IdiomStrings
namespace Go.Proofs.Ytgebocnomapchaa
open Go Go.RowKit
set_option maxHeartbeats 8000000
set_option linter.unusedSimpArgs false
set_option linter.unusedVariables false
set_option maxRecDepth 100000

/-- The cells of the package's option: no type is told by a word of its own. -/
def engTyp (x : OptS) : List UInt8 := if x.typ = [] then wNoType else x.typ
def engC (x : OptS) (v : Value) : Array Value := optCells { x with typ := engTyp x } v
def optNil : Array Value := optCells optZero (.slice none 0 0)

theorem glue_each (p : List UInt8) (ws : List (List UInt8)) (n : Nat) (h : ∀ s ∈ ws, s.length ≤ n) : ∀ s ∈ glue p ws, s.length ≤ p.length + n := by
  intro s hs
  cases ws with
  | nil => simp [glue] at hs; subst hs; omega
  | cons a t =>
    simp only [glue, List.mem_cons] at hs
    rcases hs with rfl | hs
    · have := h a (List.mem_cons_self ..); simp; omega
    · have := h s (List.mem_cons_of_mem _ hs); omega
theorem words_each : ∀ (l : List UInt8), ∀ s ∈ words l, s.length ≤ l.length
  | [], s, h => by simp [words] at h; subst h; simp
  | c :: r, s, h => by
    unfold words at h
    split at h
    · rcases List.mem_cons.1 h with rfl | h
      · simp
      · have := words_each r s h; simp; omega
    · have := glue_each [c] (words r) r.length (words_each r) s h
      simp at *; omega
theorem own_keep {w w' : World} {base : Nat} {e : TypeId} {size : Nat} {v : Value} {n : Nat} {xs : List Value} (h : w.ownsRow base e size v n xs) (hb : Below w.heap.size w w') : w'.ownsRow base e size v n xs := by
  obtain ⟨h1, h2 | ⟨g, cap, cur, a, b, c, d⟩⟩ := h
  · exact ⟨h1, Or.inl h2⟩
  · exact ⟨h1, Or.inr ⟨g, cap, cur, a, b, (hb.block g (Array.getElem?_eq_some_iff.1 c).1).trans c, d⟩⟩
theorem um_read (l : List UInt8) (b : Nat) (a : Addr) (cap : Nat) (w : World) (hl : l.length ≤ 1000) (hx0 : w.heap[b]? = some (.cells optNil 62 (0, 0)))
    (hby : ∀ j (hj : j < l.length), w.cell? (a.add j) = some (.int .u8 (l[j].toNat : Int))) (hab : a.block ≠ b) :
    Calls Try.prog 29 #[.pointer (some ⟨b, 0, none⟩), .slice (some a) l.length cap] w fun e w' =>
      Below b w w' ∧
      ((optRead l = none ∧ ∃ u v, e = .returned (.iface u v)) ∨
       ∃ x v, optRead l = some x ∧ e = .returned Value.nilIface ∧ w'.heap[b]? = some (.cells (optCells x v) 62 (0, 0)) ∧ w'.ownsRow w.heap.size 9 1 v x.vars.length (strsV x.vars)) := by
  obtain ⟨i0, hi, hz0, hz1, hz2⟩ := info_parts uw_info
  have hwl := words_le l
  have hwn := words_ne l
  have hblt : b < w.heap.size := (Array.getElem?_eq_some_iff.1 hx0).1
  have hlist : ∀ r : List UInt8, (bs r).toList = r := bs_list
  have hrd : optRead l = (match words l with | o :: ws => if o = [111, 112, 116, 105, 111, 110] then (optRun ws [] optZero).bind fun x => if x.name = [] ∨ x.typ = [] then none else some x else none | [] => none) := rfl
  have c1 : w.cell? ⟨b, 1, none⟩ = some (.string (bs [])) := cell_of_row w b 1 _ _ _ hx0
  have f1 := frozen_of_row w b 1 _ _ hx0
  have hx1 : (w.setCell ⟨b, 1, none⟩ (.string ⟨#[110, 111, 116, 121, 112, 101]⟩)).heap[b]? = some (.cells (engC optZero (.slice none 0 0)) 62 (0, 0)) := heap_setCell_same w b 1 _ _ _ hx0
  have hby1 : ∀ j (hj : j < l.length), (w.setCell ⟨b, 1, none⟩ (.string ⟨#[110, 111, 116, 121, 112, 101]⟩)).cell? (a.add j) = some (.int .u8 (l[j].toNat : Int)) := fun j hj => by
    have hb : (a.add j).block = a.block := by unfold Addr.add; split <;> rfl
    rw [World.cell?_of_block (heap_setCell_other w ⟨b, 1, none⟩ (a.add j).block _ (by rw [hb]; exact hab))]
    exact hby j hj
  have hcv := run_convert_bytes_back (P := Try.prog) (w.setCell ⟨b, 1, none⟩ (.string ⟨#[110, 111, 116, 121, 112, 101]⟩)) 66 9 5 a cap l Try.underlying66 Try.underlying5 Try.underlying9 hby1
  have hb1 : Below b w (w.setCell ⟨b, 1, none⟩ (.string ⟨#[110, 111, 116, 121, 112, 101]⟩)) := (Below.refl _ _).setCell (by simp) _
  go_enter Try.func29, Try.ntmps29
  go_wp2_with fail
  refine (uw_split l _ hl).mono ?_
  rintro e w1 ⟨vw, rfl, hown, q1⟩
  have hwe : ∀ s ∈ words l, s.length ≤ 1000 := fun s hs => Nat.le_trans (words_each l s hs) hl
  generalize words l = ws at *
  obtain ⟨o, tl, rfl⟩ : ∃ o tl, ws = o :: tl := by cases ws with | nil => exact absurd rfl hwn | cons a b => exact ⟨a, b, rfl⟩
  obtain ⟨g, cap, rfl, hg0, hg1⟩ := hown.form (by simp)
  have hcell : ∀ i, i < (o :: tl).length → w1.cell? ⟨g, i, none⟩ = some (.string (bs ((o :: tl).getD i []))) := fun i hi => by
    rw [hown.cellAt i (by omega)]
    rw [strsV, List.getElem?_map]
    simp only [List.getD, List.getElem?_eq_getElem hi, Option.map_some, Option.getD_some]
  have hsz1 := q1.size
  simp only [World.size_setCell] at hsz1 hg0
  have hxw : w1.heap[b]? = some (.cells (engC optZero (.slice none 0 0)) 62 (0, 0)) := (q1.block _ (by simpa using hblt)).trans hx1
  have hbw : Below b w w1 := hb1.trans (q1.mono (by simp; omega))
  have c0 := hcell 0 (by simp)
  simp only [List.getD_cons_zero] at c0
  clear hcv hby1 hby hb1 hx1
  by_cases ho : o = [111, 112, 116, 105, 111, 110]
  · subst ho
    have hr1 : optRead l = (optRun tl [] optZero).bind fun x => if x.name = [] ∨ x.typ = [] then none else some x := by rw [hrd]; simp
    clear hrd
    generalize hT : optRun tl [] optZero = total at *
    go_wp2_with fail
    go_loopw [6, 7] (fun rv i wr => ∃ (k : Nat) (r : List UInt8) (x : OptS) (v : Value), 1 ≤ k ∧ k ≤ tl.length + 1 ∧ i = .int .i64 (k : Int) ∧ rv = .string (bs r) ∧ wr.heap[b]? = some (.cells (engC x v) 62 (0, 0)) ∧ wr.ownsRow w1.heap.size 9 1 v x.vars.length (strsV x.vars) ∧ x.vars.length ≤ k ∧ wr.heap[g]? = w1.heap[g]? ∧ optRun (tl.drop (k - 1)) r x = total ∧ x.typ ≠ [110, 111, 116, 121, 112, 101] ∧ Below b w wr ∧ w1.heap.size ≤ wr.heap.size) (fun _ i _ => (tl.length + 1 - (intOf i).toNat))
    case atStart => exact ⟨1, [], optZero, .slice none 0 0, by omega, by omega, rfl, rfl, hxw, World.ownsRow_nil _ _ _ _, by simp [optZero], rfl, by simpa using hT, by simp [optZero], hbw, Nat.le_refl _⟩
    case round =>
      obtain ⟨k, r, x, v, hk1, hk, rfl, rfl, hx, hown, hvk, hgw, ht, htn, hbr, hbase⟩ := hrel
      have htl : tl.length ≤ 1000 := by simp at hwl; omega
      by_cases hlt : k < tl.length + 1
      · have hwc : wr.cell? ⟨g, k, none⟩ = some (.string (bs (tl.getD (k - 1) []))) := by
          have h1 := hcell k (by simp; omega)
          have h2 : wr.cell? ⟨g, k, none⟩ = w1.cell? ⟨g, k, none⟩ := World.cell?_of_block hgw
          rw [h2, h1]
          obtain ⟨j, rfl⟩ : ∃ j, k = j + 1 := ⟨k - 1, by omega⟩
          simp [List.getD]
        have hdr : tl.drop (k - 1) = tl.getD (k - 1) [] :: tl.drop k := by
          rw [List.drop_eq_getElem_cons (by omega), show k - 1 + 1 = k by omega]
          simp [List.getD, List.getElem?_eq_getElem (show k - 1 < tl.length by omega)]
        have hsl : (tl.getD (k - 1) []).length ≤ 1000 := hwe _ (by rw [show tl.getD (k - 1) [] = tl[k - 1]'(by omega) by simp [List.getD, List.getElem?_eq_getElem (show k - 1 < tl.length by omega)]]; exact List.mem_cons_of_mem _ (List.getElem_mem _))
        rw [hdr] at ht
        clear hdr
        generalize tl.getD (k - 1) [] = s at *
        have cx0 := cell_of_row wr b 0 _ _ _ hx
        have fx0 := frozen_of_row wr b 0 _ _ hx
        have cx1 := cell_of_row wr b 1 _ _ _ hx
        have fx1 := frozen_of_row wr b 1 _ _ hx
        have cx2 := cell_of_row wr b 2 _ _ _ hx
        have fx2 := frozen_of_row wr b 2 _ _ hx
        have cx3 := cell_of_row wr b 3 _ _ _ hx
        have fx3 := frozen_of_row wr b 3 _ _ hx
        have cx4 := cell_of_row wr b 4 _ _ _ hx
        have fx4 := frozen_of_row wr b 4 _ _ hx
        have cx5 := cell_of_row wr b 5 _ _ _ hx
        have fx5 := frozen_of_row wr b 5 _ _ hx
        simp only [engC, optCells] at cx0 cx1 cx2 cx3 cx4 cx5
        simp at cx0 cx1 cx2 cx3 cx4 cx5
        by_cases hr0 : r = []
        · subst hr0
          have htS : True → optRun (tl.drop (k + 1 - 1)) s x = total := fun _ => by rw [← ht, optRun, if_pos rfl]; simp
          clear ht
          go_wp2_with fail
          go_roundw
          case rel => exact ⟨k + 1, s, x, v, by omega, by omega, by go_num, rfl, hx, hown, by omega, hgw, htS trivial, htn, hbr, hbase⟩
          case measure => simp [intOf]; omega
        have n0 : (r == []) = false := by simp [hr0]
        rw [optRun, if_neg hr0] at ht
        by_cases h1 : r = [110, 97, 109, 101]
        · subst h1
          have htS : True → optRun (tl.drop (k + 1 - 1)) [] { x with name := s } = total := fun _ => by rw [← ht]; rfl
          clear ht
          have hset : (wr.setCell ⟨b, 0, none⟩ (.string (bs s))).heap[b]? = some (.cells (engC { x with name := s } v) 62 (0, 0)) := heap_setCell_same wr b 0 _ _ (.string (bs s)) hx
          have hothg := heap_setCell_other wr ⟨b, 0, none⟩ g (.string (bs s)) (by simp; omega)
          have hown2 := own_set hown ⟨b, 0, none⟩ (by show b < w1.heap.size; omega) (.string (bs s))
          have hbs := hbr.setCell (p := ⟨b, 0, none⟩) (by simp) (.string (bs s))
          have hg2 := hothg.trans hgw
          clear hown hbr hx hothg
          go_wp2_with fail
          go_roundw
          case rel =>
            exact ⟨k + 1, [], { x with name := s }, v, by omega, by omega, by go_num, rfl, hset, hown2, Nat.le_succ_of_le hvk, hg2, htS trivial, htn, hbs, by simpa using hbase⟩
          case measure => simp [intOf]; omega
        have n1 : (r == [110, 97, 109, 101]) = false := by simp [h1]
        by_cases h2 : r = [116, 121, 112, 101]
        · subst h2
          have hbz : b < wr.heap.size := (Array.getElem?_eq_some_iff.1 hx).1
          by_cases hs : s ∈ optTypes
          · have htS : True → optRun (tl.drop (k + 1 - 1)) [] { x with typ := s } = total := fun _ => by rw [← ht]; simp [optPut, wName, wType, hs]
            clear ht
            have hsn : s ≠ [] := by intro h; subst h; simp [optTypes] at hs
            go_wp2_with fail
            refine (ue_type s _ hsl).mono ?_
            rintro e w2 ⟨q2, ⟨_, rfl⟩ | ⟨hn, _⟩⟩
            rotate_left
            · exact absurd hs hn
            have hx2 := (q2.block b hbz).trans hx
            have c1 : w2.cell? ⟨b, 1, none⟩ = some (.string (bs (engTyp x))) := cell_of_row w2 b 1 _ _ _ hx2
            have f1 := frozen_of_row w2 b 1 _ _ hx2
            have he : (engC x v).setIfInBounds 1 (.string (bs s)) = engC { x with typ := s } v := by simp [engC, engTyp, optCells, hsn]
            have hset := heap_setCell_same w2 b 1 _ _ (.string (bs s)) hx2
            rw [he] at hset
            have hothg := heap_setCell_other w2 ⟨b, 1, none⟩ g (.string (bs s)) (by simp; omega)
            have hown2 := own_set (own_keep hown q2) ⟨b, 1, none⟩ (by show b < w1.heap.size; omega) (.string (bs s))
            have hbs := (hbr.trans (q2.mono (by omega))).setCell (p := ⟨b, 1, none⟩) (by simp) (.string (bs s))
            have hg2 := hothg.trans ((q2.block g (by omega)).trans hgw)
            have hb3 : w1.heap.size ≤ (w2.setCell ⟨b, 1, none⟩ (.string (bs s))).heap.size := by simpa using Nat.le_trans hbase q2.size
            clear hown hbr hx hothg cx0 cx1 cx2 cx3 cx4 cx5 fx0 fx1 fx2 fx3 fx4 fx5
            go_wp2_with fail
            go_roundw
            case rel =>
              (repeat apply Exists.intro); exact ⟨⟨k + 1, [], { x with typ := s }, v, by omega, by omega, by go_num, rfl, hset, hown2, Nat.le_succ_of_le hvk, hg2, htS trivial, (by intro h; simp only at h; subst h; simp [optTypes] at hs), hbs, hb3⟩, rfl⟩
            case measure => simp [intOf]; omega
          · have hnone : total = none := by rw [← ht]; simp [optPut, wName, wType, hs]
            have hnr : optRead l = none := by rw [hr1, hnone]; rfl
            clear ht hr1
            go_wp2_with fail
            refine (ue_type s _ hsl).mono ?_
            rintro e w2 ⟨q2, ⟨hn, _⟩ | ⟨_, u, v2, rfl⟩⟩
            · exact absurd hn hs
            go_wp2_with fail
            go_ret
            exact ⟨hbr.trans (q2.mono (by omega)), Or.inl ⟨hnr, _, _, rfl⟩⟩
        have n2 : (r == [116, 121, 112, 101]) = false := by simp [h2]
        by_cases h3 : r = [100, 101, 102, 97, 117, 108, 116]
        · subst h3
          have htS : True → optRun (tl.drop (k + 1 - 1)) [] { x with dflt := s } = total := fun _ => by rw [← ht]; rfl
          clear ht
          have hset : (wr.setCell ⟨b, 2, none⟩ (.string (bs s))).heap[b]? = some (.cells (engC { x with dflt := s } v) 62 (0, 0)) := heap_setCell_same wr b 2 _ _ (.string (bs s)) hx
          have hothg := heap_setCell_other wr ⟨b, 2, none⟩ g (.string (bs s)) (by simp; omega)
          have hown2 := own_set hown ⟨b, 2, none⟩ (by show b < w1.heap.size; omega) (.string (bs s))
          have hbs := hbr.setCell (p := ⟨b, 2, none⟩) (by simp) (.string (bs s))
          have hg2 := hothg.trans hgw
          clear hown hbr hx hothg
          go_wp2_with fail
          go_roundw
          case rel =>
            exact ⟨k + 1, [], { x with dflt := s }, v, by omega, by omega, by go_num, rfl, hset, hown2, Nat.le_succ_of_le hvk, hg2, htS trivial, htn, hbs, by simpa using hbase⟩
          case measure => simp [intOf]; omega
        have n3 : (r == [100, 101, 102, 97, 117, 108, 116]) = false := by simp [h3]
        by_cases h4 : r = [109, 105, 110]
        · subst h4
          have htS : True → optRun (tl.drop (k + 1 - 1)) [] { x with lo := s } = total := fun _ => by rw [← ht]; rfl
          clear ht
          have hset : (wr.setCell ⟨b, 3, none⟩ (.string (bs s))).heap[b]? = some (.cells (engC { x with lo := s } v) 62 (0, 0)) := heap_setCell_same wr b 3 _ _ (.string (bs s)) hx
          have hothg := heap_setCell_other wr ⟨b, 3, none⟩ g (.string (bs s)) (by simp; omega)
          have hown2 := own_set hown ⟨b, 3, none⟩ (by show b < w1.heap.size; omega) (.string (bs s))
          have hbs := hbr.setCell (p := ⟨b, 3, none⟩) (by simp) (.string (bs s))
          have hg2 := hothg.trans hgw
          clear hown hbr hx hothg
          go_wp2_with fail
          go_roundw
          case rel =>
            exact ⟨k + 1, [], { x with lo := s }, v, by omega, by omega, by go_num, rfl, hset, hown2, Nat.le_succ_of_le hvk, hg2, htS trivial, htn, hbs, by simpa using hbase⟩
          case measure => simp [intOf]; omega
        have n4 : (r == [109, 105, 110]) = false := by simp [h4]
        by_cases h5 : r = [109, 97, 120]
        · subst h5
          have htS : True → optRun (tl.drop (k + 1 - 1)) [] { x with hi := s } = total := fun _ => by rw [← ht]; rfl
          clear ht
          have hset : (wr.setCell ⟨b, 4, none⟩ (.string (bs s))).heap[b]? = some (.cells (engC { x with hi := s } v) 62 (0, 0)) := heap_setCell_same wr b 4 _ _ (.string (bs s)) hx
          have hothg := heap_setCell_other wr ⟨b, 4, none⟩ g (.string (bs s)) (by simp; omega)
          have hown2 := own_set hown ⟨b, 4, none⟩ (by show b < w1.heap.size; omega) (.string (bs s))
          have hbs := hbr.setCell (p := ⟨b, 4, none⟩) (by simp) (.string (bs s))
          have hg2 := hothg.trans hgw
          clear hown hbr hx hothg
          go_wp2_with fail
          go_roundw
          case rel =>
            exact ⟨k + 1, [], { x with hi := s }, v, by omega, by omega, by go_num, rfl, hset, hown2, Nat.le_succ_of_le hvk, hg2, htS trivial, htn, hbs, by simpa using hbase⟩
          case measure => simp [intOf]; omega
        have n5 : (r == [109, 97, 120]) = false := by simp [h5]
        by_cases h6 : r = [118, 97, 114]
        · subst h6
          have htS : True → optRun (tl.drop (k + 1 - 1)) [] { x with vars := x.vars ++ [s] } = total := fun _ => by rw [← ht]; rfl
          clear ht
          have hbz : b < wr.heap.size := (Array.getElem?_eq_some_iff.1 hx).1
          have cxa : ∀ ob, (wr.alloc ob).cell? ⟨b, 5, none⟩ = some v := fun ob => cell_of_row _ _ 5 _ _ _ ((heap_alloc_old wr ob hbz).trans hx)
          go_wp2_with (with_reducible refine at_append1 Try.underlying38 hi hz0 hz1 hz2 rfl (by decide) rfl w1.heap.size _ _ _ hown ?_ hbase ?_ ?_ ?_)
          all_goals try omega
          all_goals try rfl
          · intro v2 w2 hown' hb'
            have hx2 : w2.heap[b]? = some (.cells (engC x v) 62 (0, 0)) := (hb'.block b (by omega)).trans hx
            have c5 : w2.cell? ⟨b, 5, none⟩ = some v := cell_of_row w2 b 5 _ _ _ hx2
            have f5 := frozen_of_row w2 b 5 _ _ hx2
            obtain ⟨g2, cap2, hv2, _, _⟩ := hown'.form (by omega)
            subst hv2
            have hset : (w2.setCell ⟨b, 5, none⟩ (.slice (some ⟨g2, 0, none⟩) (x.vars.length + 1) cap2)).heap[b]? = some (.cells (engC { x with vars := x.vars ++ [s] } (.slice (some ⟨g2, 0, none⟩) (x.vars.length + 1) cap2)) 62 (0, 0)) := heap_setCell_same w2 b 5 _ _ (.slice (some ⟨g2, 0, none⟩) (x.vars.length + 1) cap2) hx2
            have hothg := heap_setCell_other w2 ⟨b, 5, none⟩ g (.slice (some ⟨g2, 0, none⟩) (x.vars.length + 1) cap2) (by simp; omega)
            have hown2 := own_set hown' ⟨b, 5, none⟩ (by show b < w1.heap.size; omega) (.slice (some ⟨g2, 0, none⟩) (x.vars.length + 1) cap2)
            have hg2 := hothg.trans ((hb'.block g hg1).trans hgw)
            have hbq : Below b w w2 := hbr.trans (hb'.mono (by omega))
            have hbs := hbq.setCell (p := ⟨b, 5, none⟩) (by simp) (.slice (some ⟨g2, 0, none⟩) (x.vars.length + 1) cap2)
            have hb3 : w1.heap.size ≤ (w2.setCell ⟨b, 5, none⟩ (.slice (some ⟨g2, 0, none⟩) (x.vars.length + 1) cap2)).heap.size := by simpa using Nat.le_trans hbase hb'.size
            have hown3 : (w2.setCell ⟨b, 5, none⟩ (.slice (some ⟨g2, 0, none⟩) (x.vars.length + 1) cap2)).ownsRow w1.heap.size 9 1 (.slice (some ⟨g2, 0, none⟩) (x.vars.length + 1) cap2) (x.vars ++ [s]).length (strsV (x.vars ++ [s])) := by rw [List.length_append, strsV, List.map_append]; exact hown2
            clear hown hown' hbr hb' hx hothg hown2 hbq cx0 cx1 cx2 cx3 cx4 cx5 fx0 fx1 fx2 fx3 fx4 fx5
            go_wp2_with fail
            go_roundw
            case rel =>
              (repeat apply Exists.intro); exact ⟨⟨k + 1, [], { x with vars := x.vars ++ [s] }, (.slice (some ⟨g2, 0, none⟩) (x.vars.length + 1) cap2), by omega, by omega, by go_num, rfl, hset, hown3, by rw [List.length_append]; exact Nat.succ_le_succ hvk, hg2, htS trivial, htn, hbs, hb3⟩, rfl⟩
            case measure => simp [intOf]; omega
        have n6 : (r == [118, 97, 114]) = false := by simp [h6]
        have htS : True → optRun (tl.drop (k + 1 - 1)) [] x = total := fun _ => by rw [← ht]; simp [optPut, wName, wType, wDefault, wMin, wMax, wVar, h1, h2, h3, h4, h5, h6]
        clear ht
        go_wp2_with fail
        go_roundw
        case rel => exact ⟨k + 1, [], x, v, by omega, by omega, by go_num, rfl, hx, hown, by omega, hgw, htS trivial, htn, hbr, hbase⟩
        case measure => simp [intOf]; omega
      · obtain rfl : k = tl.length + 1 := by omega
        have hfin : total = some x := by rw [← ht]; simp [optRun]
        clear ht
        have cx0 : wr.cell? ⟨b, 0, none⟩ = some (.string (bs x.name)) := cell_of_row wr b 0 _ _ _ hx
        have cx1 : wr.cell? ⟨b, 1, none⟩ = some (.string (bs (engTyp x))) := cell_of_row wr b 1 _ _ _ hx
        by_cases hnm : x.name = []
        · have hnr : optRead l = none := by rw [hr1, hfin]; simp [hnm]
          clear hr1
          rw [hnm] at cx0
          go_wp2_with fail
          refine (ue_new _ _).mono ?_
          rintro e w2 ⟨⟨u, v2, rfl⟩, q2⟩
          go_wp2_with fail
          go_ret
          exact ⟨hbr.trans (q2.mono (by omega)), Or.inl ⟨hnr, _, _, rfl⟩⟩
        have b0 : (x.name == []) = false := by simp [hnm]
        by_cases hty : x.typ = []
        · have hnr : optRead l = none := by rw [hr1, hfin]; simp [hty]
          clear hr1
          rw [show engTyp x = [110, 111, 116, 121, 112, 101] by simp [engTyp, hty, wNoType]] at cx1
          go_wp2_with fail
          refine (ue_new _ _).mono ?_
          rintro e w2 ⟨⟨u, v2, rfl⟩, q2⟩
          go_wp2_with fail
          go_ret
          exact ⟨hbr.trans (q2.mono (by omega)), Or.inl ⟨hnr, _, _, rfl⟩⟩
        have het : engTyp x = x.typ := by simp [engTyp, hty]
        rw [het] at cx1
        have b1 : (x.typ == [110, 111, 116, 121, 112, 101]) = false := by simp; exact htn
        have hnr : optRead l = some x := by rw [hr1, hfin]; simp [hnm, hty]
        have he : engC x v = optCells x v := by unfold engC; rw [het]
        rw [he] at hx
        clear hr1
        go_wp2_with fail
        go_ret
        exact ⟨hbr, Or.inr ⟨x, v, hnr, rfl, hx, own_mono hown (by omega)⟩⟩
  · have hne : (o == [111, 112, 116, 105, 111, 110]) = false := by simp [ho]
    have hnone : optRead l = none := by rw [hrd]; simp [ho]
    clear hrd
    go_wp2_with fail
    refine (ue_new _ _).mono ?_
    rintro e w2 ⟨⟨u, v, rfl⟩, q2⟩
    go_wp2_with fail
    go_ret
    exact ⟨hbw.trans (q2.mono (by omega)), Or.inl ⟨hnone, _, _, rfl⟩⟩
end Go.Proofs.Ytgebocnomapchaa
