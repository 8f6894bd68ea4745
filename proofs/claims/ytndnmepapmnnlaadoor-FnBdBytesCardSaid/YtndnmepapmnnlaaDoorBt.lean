/- FnBdSquares: the law. For every board, and a package variable that lists the pieces. -/
import Derived.Test.YtndnmepapmnnlaaDoorBs
import Derived.Great.BuildSlice
namespace Go.Proofs.YtndnmepapmnnlaaDoor
open Go Go.RowKit
set_option maxHeartbeats 2000000
set_option linter.unusedSimpArgs false
set_option linter.unusedVariables false
set_option maxRecDepth 100000

/-! ### A struct made of one array at its beginning -/
theorem over : ∀ (l : List Value) (k : Nat) (cs : Array Value), k + l.length ≤ cs.size → ((l.zipIdx k).foldl (fun (cs : Array Value) (x : Value × Nat) => cs.setIfInBounds (0 + x.2) x.1) cs).toList = cs.toList.take k ++ l ++ cs.toList.drop (k + l.length)
  | [], k, cs, h => by simp
  | x :: l, k, cs, h => by
    simp only [List.zipIdx_cons, List.foldl_cons]
    have hk : k < cs.size := by simp at h; omega
    rw [over l (k + 1) _ (by simp at h ⊢; omega)]
    simp only [Nat.zero_add, Array.toList_setIfInBounds]
    have e1 : (cs.toList.set k x).take (k + 1) = cs.toList.take k ++ [x] := by
      rw [List.take_add_one, List.take_set_of_le (Nat.le_refl k)]
      simp [hk]
    have e2 : (cs.toList.set k x).drop (k + 1 + l.length) = cs.toList.drop (k + 1 + l.length) := by
      rw [List.drop_set_of_lt (by omega)]
    rw [e1, e2]
    simp [Nat.add_assoc, Nat.add_comm 1]
def tail5 : List Int := [0, 0, 0, 0, 0]
theorem bt_fill (p : List Int) (h : p.length = 64) : (ints p).zipIdx.foldl (fun cs (c, j) => cs.setIfInBounds (0 + j) c) (ints (List.replicate 69 0)) = ints (p ++ tail5) := by
  apply Array.ext'
  rw [← Array.foldl_toList, Array.toList_zipIdx]
  have := over (ints p).toList 0 (ints (List.replicate 69 0)) (by simp [ints, h])
  refine Eq.trans this ?_
  simp [ints, h, tail5]
theorem bt_info : (Tryd.prog.info? 25).map (fun i => (i.zero, i.size)) = some (some (.agg (ints (List.replicate 69 0))), 69) := by kernel_rfl
theorem bt_built (p : List Int) (h : p.length = 64) : Tryd.prog.built 25 [(0, .agg (ints p))] = some (ints (p ++ tail5)) := by
  have hp : (Tryd.prog.fieldsOf 25).toList.mapM (fun f => (Tryd.prog.info? f.type).map fun i => (f.offset, i.size)) = some [(0, 64), (64, 1), (65, 1), (66, 1), (67, 1), (68, 1)] := by kernel_rfl
  have hu : Tryd.prog.underlying 25 = some (.struct (Tryd.prog.fieldsOf 25)) := by kernel_rfl
  have hi := bt_info
  cases hin : Tryd.prog.info? 25 with
  | none => rw [hin] at hi; cases hi
  | some it =>
    rw [hin] at hi
    simp only [Option.map_some, Option.some.injEq, Prod.mk.injEq] at hi
    unfold Program.built
    simp only [hin, hu, hi.1, hp]
    have hs : (Value.agg (ints p)).cells = ints p := rfl
    have hs2 : (Value.agg (ints (List.replicate 69 0))).cells = ints (List.replicate 69 0) := rfl
    simp only [hs2, Instr.fill, hs, ints_size, h]
    have := bt_fill p h
    simpa using this

theorem at_build_pos {ops : Array Oper} {rest : List Oper} {a : Act} {w : World} {Q : Exit → Act → World → Prop} {d : Option Tmp} {x : Operand} {ty : TypeId} {ps : String} {af : Array Edge} (p : List Int) (hl : p.length = 64) (hx : a.eval x = .agg (ints p))
    (h : wpList Tryd.prog ops Q rest (a.put d (.agg (ints (p ++ tail5)))) w) : wpList Tryd.prog ops Q ({ dst := d, op := .build 25 #[(0, x)], type := ty, pos := ps, after := af, guard := none } :: rest) a w :=
  wpList_buildTo rfl _ _ rfl d rfl (ints (p ++ tail5)) (by simp only [List.map_toArray, List.map_cons, List.map_nil, hx]; exact bt_built p hl) h
theorem bt_get (p : List Int) (h : p.length = 64) (i : Nat) (hi : i < 64) : (p ++ tail5).getD i 0 = p.getD i 0 := by
  simp [List.getD, List.getElem?_append_left (show i < p.length by omega)]
theorem bt_men (p : List Int) (h : p.length = 64) : men (p ++ tail5) 64 = men p 64 := by
  unfold men
  congr 1
  apply List.filter_congr
  intro i hi
  rw [bt_get p h i (List.mem_range.1 hi)]
theorem bt_cnt (p : List Int) (h : p.length = 64) (k : Int) : cnt (p ++ tail5) k 64 = cnt p k 64 := by
  unfold cnt
  congr 1
  apply List.filter_congr
  intro i hi
  rw [bt_get p h i (List.mem_range.1 hi)]
/-- With at most one k the last square on which it stands is the first. -/
theorem cnt_zero (p : List Int) (k : Int) : ∀ n, cnt p k n = 0 → lastK p k n = -1 ∧ ∀ j, j < n → p.getD j 0 ≠ k
  | 0, _ => ⟨rfl, fun j hj => by omega⟩
  | n + 1, h => by
    by_cases e : p.getD n 0 = k
    · rw [cnt_yes p k n e] at h; omega
    · rw [cnt_no p k n e] at h
      obtain ⟨h1, h2⟩ := cnt_zero p k n h
      refine ⟨by rw [lastK, if_neg e]; exact h1, fun j hj => ?_⟩
      by_cases ej : j = n
      · subst ej; exact e
      · exact h2 j (by omega)
theorem first_none (p : List Int) (k : Int) : ∀ n i, (∀ j, i ≤ j → j < i + n → p.getD j 0 ≠ k) → firstK p k i n = -1
  | 0, i, _ => rfl
  | n + 1, i, h => by
    rw [firstK, if_neg (h i (by omega) (by omega))]
    exact first_none p k n (i + 1) (fun j h1 h2 => h j (by omega) (by omega))
theorem first_at (p : List Int) (k : Int) (m : Nat) (hm : p.getD m 0 = k) : ∀ n i, i ≤ m → m < i + n → (∀ j, i ≤ j → j < m → p.getD j 0 ≠ k) → firstK p k i n = m
  | 0, i, h1, h2, _ => by omega
  | n + 1, i, h1, h2, h => by
    by_cases e : i = m
    · subst e; rw [firstK, if_pos hm]
    · rw [firstK, if_neg (h i (by omega) (by omega))]
      exact first_at p k m hm n (i + 1) (by omega) (by omega) (fun j h1 h2 => h j (by omega) h2)
theorem last_first (p : List Int) (k : Int) : ∀ n, n ≤ 64 → cnt p k n ≤ 1 → (∀ j, n ≤ j → j < 64 → p.getD j 0 ≠ k) → lastK p k n = firstK p k 0 64
  | 0, _, _, h => by rw [first_none p k 64 0 (fun j _ h2 => h j (by omega) (by omega))]; rfl
  | n + 1, hn, hc, h => by
    by_cases e : p.getD n 0 = k
    · rw [cnt_yes p k n e] at hc
      obtain ⟨_, h2⟩ := cnt_zero p k n (by omega)
      rw [lastK, if_pos e, first_at p k n e 64 0 (by omega) (by omega) (fun j _ hj => h2 j hj)]
    · rw [cnt_no p k n e] at hc
      rw [lastK, if_neg e]
      refine last_first p k n (by omega) hc (fun j h1 h2 => ?_)
      by_cases ej : j = n
      · subst ej; exact e
      · exact h j (by omega) h2
theorem bt_first (p : List Int) (h : p.length = 64) (k : Int) : ∀ n i, i + n ≤ 64 → firstK (p ++ tail5) k i n = firstK p k i n
  | 0, i, _ => rfl
  | n + 1, i, hi => by rw [firstK, firstK, bt_get p h i (by omega), bt_first p h k n (i + 1) (by omega)]

theorem bt_w2 (w w1 : World) (t : TypeId) (c old : Array Value) (tt : TypeId) (cs : Array Value) (b : List Int) (r : w1.heap[w.heap.size]? = some (.cells (ints b) t (0, 0))) (hB : Below w.heap.size w w1) :
    ((w1.alloc (.cells old tt)).setRow w1.heap.size cs).heap[w.heap.size]? = some (.cells (ints b) t (0, 0)) ∧ ((w1.alloc (.cells old tt)).setRow w1.heap.size cs).heap[w1.heap.size]? = some (.cells cs tt (0, 0)) ∧ Below w.heap.size w ((w1.alloc (.cells old tt)).setRow w1.heap.size cs) ∧ Below w1.heap.size w1 ((w1.alloc (.cells old tt)).setRow w1.heap.size cs) := by
  have hlt := (Array.getElem?_eq_some_iff.1 r).1
  exact ⟨(setRow_other _ _ _ _ (by omega)).trans (heap_keep r), setRow_heap _ _ _ _ _ _ (heap_alloc_new w1 _), below_setRow (hB.alloc hB.size _) hB.size _, below_setRow ((Below.refl _ _).alloc (Nat.le_refl _) _) (Nat.le_refl _) _⟩
theorem bt_law (b : List Int) (hl : b.length = 64) (w : World) (hA : IntSl w 1 .i8 allL) :
    Calls Tryd.prog 3 #[.agg (ints b)] w fun e' w' => e' = .returned (.bool true) ∧ Below w.heap.size w w' := by
  have hrow := heap_alloc_new w (.cells (ints b) 22)
  have hB0 : Below w.heap.size w (w.alloc (.cells (ints b) 22)) := (Below.refl _ _).alloc (Nat.le_refl _) _
  go_enter Tryd.func3, Tryd.ntmps3
  go_wp2_with (refine at_load_row hrow Tryd.underlying22 rfl ?_ rfl ?_; (rw [ints_size, hl]; kernel_rfl))
  refine (br_right b hl _).mono ?_
  rintro e1 w1 ⟨rfl, hb1⟩
  have r1 := (hb1.block _ (by simp)).trans hrow
  have hB1 := hB0.trans (hb1.mono hB0.size)
  clear hrow hB0
  cases hr : right b with
  | false =>
    go_wp2_with fail
    go_ret
    exact ⟨rfl, hB1⟩
  | true =>
    have hp := right_brd b hl hr
    have hlq : (b ++ tail5).length = 69 := by simp [hl, tail5]
    go_wp2_with (first
      | ((with_reducible refine at_load_row r1 Tryd.underlying22 rfl ?_ ?_ ?_); (rw [ints_size, hl]; kernel_rfl); rfl)
      | ((with_reducible refine at_build_pos b hl ?_ ?_); rfl)
      | ((with_reducible refine at_new_row (ints (b ++ tail5)) ?_ ?_ ?_ ?_ ?_ ?_); (rw [ints_size, hlq]; kernel_rfl); (rw [ints_size, hlq]; kernel_rfl); exact ints_one _; rfl; rfl; intro W2 rQ hC2; have rB := (hC2.block _ (Array.getElem?_eq_some_iff.1 r1).1).trans r1; have hB2 := hB1.trans (hC2.mono hB1.size))
      | ((with_reducible refine at_load_row rB Tryd.underlying22 rfl ?_ ?_ ?_); (rw [ints_size, hl]; kernel_rfl); rfl))
    refine (bs_squares b hp W2 (hA.below hB2)).mono ?_
    rintro e2 w3 ⟨rfl, hb3⟩
    have rB3 := (hb3.block _ (Array.getElem?_eq_some_iff.1 rB).1).trans rB
    have rQ3 := (hb3.block _ (Array.getElem?_eq_some_iff.1 rQ).1).trans rQ
    have hB3 := hB2.trans (hb3.mono hB2.size)
    clear rB rQ hB2 hb3 r1 hB1 hb1 hC2
    obtain ⟨ii, hi, hz0, hz1, hz2⟩ := info_parts (show (Tryd.prog.info? 3).map (fun i => (i.zero, i.size, i.bytes)) = some (some (.int .i64 0), 1, 8) by kernel_rfl)
    have hEq : ∀ W, (Op.equalIn 10000 22 (.agg (ints b)) (.agg (ints b))).run Tryd.prog W = .ok true W := fun W => by
      have := eq_ints (P := Tryd.prog) Tryd.underlying22 hi (by kernel_rfl) (by kernel_rfl) b b hl hl W
      simpa using this
    clear hi hz0 hz1 hz2
    go_wp2_with (first
      | ((with_reducible refine at_new_row (ints b) ?_ ?_ ?_ ?_ ?_ ?_); (rw [ints_size, hl]; kernel_rfl); (rw [ints_size, hl]; kernel_rfl); exact ints_one _; rfl; rfl; intro W4 rG4 hC4; have rB4 := (hC4.block _ (Array.getElem?_eq_some_iff.1 rB3).1).trans rB3; have rQ4 := (hC4.block _ (Array.getElem?_eq_some_iff.1 rQ3).1).trans rQ3; have hB4 := hB3.trans (hC4.mono hB3.size))
      | ((with_reducible refine at_load_rowG rG4 Tryd.underlying22 rfl ?_ ?_ ?_ ?_); (rw [ints_size, hl]; kernel_rfl); rfl; rfl)
      | ((with_reducible refine at_load_rowG rB4 Tryd.underlying22 rfl ?_ ?_ ?_ ?_); (rw [ints_size, hl]; kernel_rfl); rfl; rfl)
      | ((with_reducible refine at_load_rowG rQ4 Tryd.underlying25 rfl ?_ ?_ ?_ ?_); (rw [ints_size, hlq]; kernel_rfl); rfl; rfl))
    refine (br_men (b ++ tail5) hlq (fun s hs => by rw [bt_get b hl s hs]; exact hp.lo s) W4).mono ?_
    rintro e3 w5 ⟨rfl, hb5⟩
    rw [bt_men b hl]
    have rB5 := (hb5.block _ (Array.getElem?_eq_some_iff.1 rB4).1).trans rB4
    have rQ5 := (hb5.block _ (Array.getElem?_eq_some_iff.1 rQ4).1).trans rQ4
    have hB5 := hB4.trans (hb5.mono hB4.size)
    clear rB4 rQ4 rG4 hC4 hB4 hb5 rB3 rQ3 hB3 hEq
    have hn0 := fun W => br_count (b ++ tail5) hlq 1 0 (by decide) (by decide) (by decide) (by decide) W
    have hn1 := fun W => br_count (b ++ tail5) hlq 1 1 (by decide) (by decide) (by decide) (by decide) W
    have hk0 := fun W => br_kingAt (b ++ tail5) hlq 0 (by decide) (by decide) W
    have hk1 := fun W => br_kingAt (b ++ tail5) hlq 1 (by decide) (by decide) W
    simp only [show (1 : Int) + 6 * 0 = 1 from rfl, show (1 : Int) + 6 * 1 = 7 from rfl, bt_cnt b hl, bt_first b hl _ 64 0 (by omega)] at hn0 hn1 hk0 hk1
    have hl0 : cnt b 1 64 ≤ 1 → lastK b 1 64 = firstK b 1 0 64 := fun h => last_first b 1 64 (by omega) h (fun j h1 h2 => by omega)
    have hl1 : cnt b 7 64 ≤ 1 → lastK b 7 64 = firstK b 7 0 64 := fun h => last_first b 7 64 (by omega) h (fun j h1 h2 => by omega)
    have hkk := fun W hA => bs_kings b hp W hA
    have hle0 := cnt_le b 1 64
    have hle1 := cnt_le b 7 64
    generalize cnt b 1 64 = c0 at *
    generalize cnt b 7 64 = c1 at *
    generalize lastK b 1 64 = x0 at *
    generalize lastK b 7 64 = x1 at *
    generalize firstK b 1 0 64 = y0 at *
    generalize firstK b 7 0 64 = y1 at *
    have hid := show Shut _ from And.intro hl0 (And.intro hl1 (And.intro hn0 (And.intro hn1 (And.intro hk0 (And.intro hk1 hkk)))))
    clear hl0 hl1 hn0 hn1 hk0 hk1 hkk
    go_wp2_with ((with_reducible refine at_load_row rQ5 Tryd.underlying25 rfl ?_ ?_ ?_); (rw [ints_size, hlq]; kernel_rfl); rfl)
    refine (hid.out.2.2.1 _).mono ?_
    rintro e4 w6 ⟨rfl, hb6⟩
    have rB6 := (hb6.block _ (Array.getElem?_eq_some_iff.1 rB5).1).trans rB5
    have rQ6 := (hb6.block _ (Array.getElem?_eq_some_iff.1 rQ5).1).trans rQ5
    have hB6 := hB5.trans (hb6.mono hB5.size)
    clear rB5 rQ5 hb6 hB5
    by_cases hc0 : 1 < c0
    · go_wp2_with fail
      go_ret
      exact ⟨rfl, hB6⟩
    have hd0 : ((1 : Int) < (c0 : Int)) = False := by simp; omega
    go_wp2_with (first
      | ((with_reducible refine at_load_rowG rQ6 Tryd.underlying25 rfl ?_ ?_ ?_ ?_); (rw [ints_size, hlq]; kernel_rfl); rfl; rfl))
    refine (hid.out.2.2.2.1 _).mono ?_
    rintro e5 w7 ⟨rfl, hb7⟩
    have rB7 := (hb7.block _ (Array.getElem?_eq_some_iff.1 rB6).1).trans rB6
    have rQ7 := (hb7.block _ (Array.getElem?_eq_some_iff.1 rQ6).1).trans rQ6
    have hB7 := hB6.trans (hb7.mono hB6.size)
    clear rB6 rQ6 hb7 hB6
    by_cases hc1 : 1 < c1
    · go_wp2_with fail
      go_ret
      exact ⟨rfl, hB7⟩
    have hd1 : ((1 : Int) < (c1 : Int)) = False := by simp; omega
    go_wp2_with ((with_reducible refine at_load_row rB7 Tryd.underlying22 rfl ?_ ?_ ?_); (rw [ints_size, hl]; kernel_rfl); rfl)
    refine (hid.out.2.2.2.2.2.2 _ (hA.below hB7)).mono ?_
    rintro e6 w8 ⟨rfl, hb8⟩
    have rQ8 := (hb8.block _ (Array.getElem?_eq_some_iff.1 rQ7).1).trans rQ7
    have hB8 := hB7.trans (hb8.mono hB7.size)
    clear rB7 rQ7 hb8 hB7
    obtain rfl := hid.out.1 (by omega)
    obtain rfl := hid.out.2.1 (by omega)
    go_wp2_with (first
      | ((with_reducible refine at_load_rowG rQ8 Tryd.underlying25 rfl ?_ ?_ ?_ ?_); (rw [ints_size, hlq]; kernel_rfl); rfl; rfl))
    refine (hid.out.2.2.2.2.1 _).mono ?_
    rintro e7 w9 ⟨rfl, hb9⟩
    have rQ9 := (hb9.block _ (Array.getElem?_eq_some_iff.1 rQ8).1).trans rQ8
    have hB9 := hB8.trans (hb9.mono hB8.size)
    clear rQ8 hb9 hB8
    go_wp2_with (first
      | ((with_reducible refine at_load_rowG rQ9 Tryd.underlying25 rfl ?_ ?_ ?_ ?_); (rw [ints_size, hlq]; kernel_rfl); rfl; rfl))
    refine (hid.out.2.2.2.2.2.1 _).mono ?_
    rintro e8 w10 ⟨rfl, hb10⟩
    have hB10 := hB9.trans (hb10.mono hB9.size)
    clear rQ9 hb10 hB9
    go_wp2_with fail
    go_ret
    exact ⟨rfl, hB10⟩
end Go.Proofs.YtndnmepapmnnlaaDoor
