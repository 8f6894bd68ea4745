/- A board of the package: its twelve numbers of 64 bits, what it has on a square, and how it is made of a map. For every board. -/
import Derived.Test.YtnpklkenjaambaaDoorSq
import Derived.Test.YtnpklkenjaambaaDoorMp
import Derived.Test.YtnpklkenjaambaaDoorPi
import Derived.Test.YtnpklkenjaambaaDoorLaid
namespace Go.Proofs.YtnpklkenjaambaaDoor
open Go Go.RowKit
set_option maxHeartbeats 2000000
set_option linter.unusedSimpArgs false
set_option linter.unusedVariables false
set_option maxRecDepth 100000

/-- The squares below n on which k stands, as bits. -/
def bbTo (p : List Int) (k : Int) : Nat → BitVec 64
  | 0 => 0#64
  | n + 1 => (bbTo p k n <<< 1) ||| (if p.getD n 0 = k then 1#64 else 0#64)
theorem bbTo_bit (p : List Int) (k : Int) : ∀ n, n ≤ 64 → ∀ i, i < 64 → (bbTo p k n).getLsbD i = (decide (i < n) && decide (p.getD (n - 1 - i) 0 = k))
  | 0, _, i, hi => by simp [bbTo]
  | n + 1, hn, i, hi => by
    have ih := bbTo_bit p k n (by omega)
    rw [bbTo, BitVec.getLsbD_or, BitVec.getLsbD_shiftLeft]
    cases i with
    | zero =>
      have h0 : (if p.getD n 0 = k then 1#64 else 0#64).getLsbD 0 = decide (p.getD n 0 = k) := by split <;> simp_all
      rw [h0]
      simp
    | succ i =>
      have h1 : (if p.getD n 0 = k then 1#64 else 0#64).getLsbD (i + 1) = false := by
        split <;> simp [BitVec.getLsbD_one]
      rw [h1, Nat.add_sub_cancel, ih i (by omega)]
      have e : n - (i + 1) = n - 1 - i := by omega
      simp only [Nat.add_sub_cancel, e] 
      by_cases hin : i < n
      · simp [hin, hi]
      · simp [hin]
def bb (p : List Int) (k : Int) : BitVec 64 := bbTo p k 64
theorem occ_bb (p : List Int) (k : Int) (s : Nat) (h : s < 64) : occ (bb p k) s = decide (p.getD s 0 = k) := by
  unfold occ bb
  rw [bbTo_bit p k 64 (by omega) _ (by omega)]
  have e : 64 - 1 - (63 - s) = s := by omega
  rw [e]
  simp
  omega
def whiteB (p : List Int) : BitVec 64 := bb p 1 ||| bb p 2 ||| bb p 3 ||| bb p 4 ||| bb p 5 ||| bb p 6
def blackB (p : List Int) : BitVec 64 := bb p 7 ||| bb p 8 ||| bb p 9 ||| bb p 10 ||| bb p 11 ||| bb p 12
/-- The cells of a board: twelve numbers, and anything behind them. -/
def brdF (F : Nat → BitVec 64) (a b c d e : Value) : Array Value := #[bbv (F 0), bbv (F 1), bbv (F 2), bbv (F 3), bbv (F 4), bbv (F 5), bbv (F 6), bbv (F 7), bbv (F 8), bbv (F 9), bbv (F 10), bbv (F 11), a, b, c, d, e]
def bbF (p : List Int) : Nat → BitVec 64 := fun i => bb p ((i : Int) + 1)
/-- The last square on which k stands, -1 without one. -/
def lastK (p : List Int) (k : Int) : Nat → Int
  | 0 => -1
  | n + 1 => if p.getD n 0 = k then (n : Int) else lastK p k n
/-- The cells of a board. -/
def brd (p : List Int) : Array Value := brdF (bbF p) (bbv (whiteB p)) (bbv (blackB p)) (bbv (~~~(whiteB p ||| blackB p))) (.int .i8 (lastK p 1 64)) (.int .i8 (lastK p 7 64))
/-- The pieces, as the package lists them. -/
def allL : List Int := [1, 2, 3, 4, 5, 6, 7, 8, 9, 10, 11, 12]
theorem twelve {k : Nat} (h : k < 12) : k = 0 ∨ k = 1 ∨ k = 2 ∨ k = 3 ∨ k = 4 ∨ k = 5 ∨ k = 6 ∨ k = 7 ∨ k = 8 ∨ k = 9 ∨ k = 10 ∨ k = 11 := by omega
theorem allL_get (k : Nat) (h : k < 12) : allL.getD k 0 = (k : Int) + 1 := by
  rcases twelve h with rfl | rfl | rfl | rfl | rfl | rfl | rfl | rfl | rfl | rfl | rfl | rfl <;> rfl
theorem brdF_get (F : Nat → BitVec 64) (a b c d e : Value) (k : Nat) (h : k < 12) : (brdF F a b c d e)[k]? = some (bbv (F k)) := by
  rcases twelve h with rfl | rfl | rfl | rfl | rfl | rfl | rfl | rfl | rfl | rfl | rfl | rfl <;> rfl
theorem brdF_set (F : Nat → BitVec 64) (a b c d e : Value) (k : Nat) (h : k < 12) (x : BitVec 64) : (brdF F a b c d e).setIfInBounds k (bbv x) = brdF (fun j => if j = k then x else F j) a b c d e := by
  rcases twelve h with rfl | rfl | rfl | rfl | rfl | rfl | rfl | rfl | rfl | rfl | rfl | rfl <;> rfl

/-- Nothing but block g has changed. -/
def Only (g : Nat) (w w' : World) : Prop := (∀ k, k ≠ g → w'.heap[k]? = w.heap[k]?) ∧ ∀ B a, B ≤ g → Below B a w → Below B a w'
theorem Only.refl (g : Nat) (w : World) : Only g w w := ⟨fun _ _ => rfl, fun _ _ _ h => h⟩
theorem Only.trans {g : Nat} {w w1 w2 : World} (h : Only g w w1) (h2 : Only g w1 w2) : Only g w w2 := ⟨fun k hk => (h2.1 k hk).trans (h.1 k hk), fun B a hB hb => h2.2 B a hB (h.2 B a hB hb)⟩
theorem Only.setCell {g : Nat} {w w1 : World} (h : Only g w w1) (i : Nat) (v : Value) : Only g w (w1.setCell ⟨g, i, none⟩ v) :=
  ⟨fun k hk => (heap_setCell_other w1 ⟨g, i, none⟩ k v hk).trans (h.1 k hk), fun B a hB hb => (h.2 B a hB hb).setCell (p := ⟨g, i, none⟩) hB v⟩
theorem Only.drewN {g : Nat} {w w1 : World} (h : Only g w w1) (n : Nat) : Only g w (w1.drewN n) := ⟨h.1, fun B a hB hb => (h.2 B a hB hb).trans ⟨rfl, rfl, rfl, Nat.le_refl _, fun _ _ => rfl⟩⟩
theorem Only.intSl {g b : Nat} {w w' : World} {k : IntKind} {zs : List Int} (h : Only g w w') (hv : IntSl w b k zs) (hg : ∀ a : Addr, w.cell? ⟨b, 0, none⟩ = some (.slice (some a) zs.length zs.length) → a.block ≠ g) (hb : b ≠ g) (hs : w.heap.size ≤ w'.heap.size) : IntSl w' b k zs := by
  obtain ⟨⟨a, h1, h2, h3, h4⟩, h5⟩ := hv
  exact ⟨⟨a, h1, by omega, (World.cell?_of_block (h.1 b hb)).trans h3, fun i hi => (World.cell?_of_block (a := ⟨a.block, a.off + i, none⟩) (h.1 a.block (hg a h3))).trans (h4 i hi)⟩, by omega⟩

/-- The number of a piece. -/
theorem bo_get (F : Nat → BitVec 64) (a b c d e : Value) (g : Nat) (k : Nat) (w : World) (hg : w.heap[g]? = some (.cells (brdF F a b c d e) 59 (0, 0))) (h : k < 12) :
    Calls Tryd.prog 57 #[.pointer (some ⟨g, 0, none⟩), .int .i8 ((k : Int) + 1)] w fun e' w' => e' = .returned (bbv (F k)) ∧ w = w' := by
  have hc := cell_of_row w g k _ _ _ hg
  rw [brdF_get F a b c d e k h] at hc
  clear hg
  go_enter Tryd.func57, Tryd.ntmps57
  rcases twelve h with rfl | rfl | rfl | rfl | rfl | rfl | rfl | rfl | rfl | rfl | rfl | rfl
  all_goals (
    go_wp2
    go_ret
    exact ⟨rfl, rfl⟩)
theorem bo_set (F : Nat → BitVec 64) (a b c d e : Value) (g : Nat) (k : Nat) (x : BitVec 64) (w : World) (hg : w.heap[g]? = some (.cells (brdF F a b c d e) 59 (0, 0))) (h : k < 12) :
    Calls Tryd.prog 50 #[.pointer (some ⟨g, 0, none⟩), .int .i8 ((k : Int) + 1), bbv x] w fun e' w' => e' = .returned (.tuple #[]) ∧ w' = w.setCell ⟨g, k, none⟩ (bbv x) := by
  have hc := cell_of_row w g k _ _ _ hg
  have hf := frozen_of_row w g k _ _ hg
  rw [brdF_get F a b c d e k h] at hc
  clear hg
  go_enter Tryd.func50, Tryd.ntmps50
  rcases twelve h with rfl | rfl | rfl | rfl | rfl | rfl | rfl | rfl | rfl | rfl | rfl | rfl
  all_goals (
    go_wp2
    go_simp
    go_wp2
    go_end0
    exact ⟨rfl, rfl⟩)

/-- What stands on a square. -/
theorem bo_piece (p : List Int) (a b c d e : Value) (g : Nat) (s : Int) (w : World) (hA : IntSl w 1 .i8 allL) (hg : w.heap[g]? = some (.cells (brdF (bbF p) a b c d e) 59 (0, 0)))
    (h0 : 0 ≤ s) (h1 : s ≤ 63) (hp0 : 0 ≤ p.getD s.toNat 0) (hp1 : p.getD s.toNat 0 ≤ 12) :
    Calls Tryd.prog 43 #[.pointer (some ⟨g, 0, none⟩), .int .i8 s] w fun e' w' => e' = .returned (.int .i8 (p.getD s.toNat 0)) ∧ w = w' := by
  obtain ⟨⟨q, hq, hqb, hc0, hci⟩, _⟩ := hA
  simp only [show allL.length = 12 from rfl] at hc0 hci
  go_enter Tryd.func43, Tryd.ntmps43
  go_wp2_with fail
  go_loopw [10] (fun i wr => ∃ k : Nat, k ≤ 12 ∧ i = .int .i64 (k : Int) ∧ wr = w ∧ ∀ j : Nat, j < k → p.getD s.toNat 0 ≠ (j : Int) + 1) (fun i _ => (12 - intOf i).toNat)
  case atStart => exact ⟨0, by omega, rfl, rfl, fun j hj => by omega⟩
  case round =>
    obtain ⟨k, hk, rfl, rfl, hno⟩ := hrel
    by_cases hlt : k < 12
    · have hck := hci k hlt
      rw [allL_get k hlt, ← add_at hq] at hck
      have hocc : occ (bbF p k) s.toNat = decide (p.getD s.toNat 0 = (k : Int) + 1) := occ_bb p ((k : Int) + 1) s.toNat (by omega)
      have hno' : True → ∀ j : Nat, j < k → p.getD s.toNat 0 ≠ (j : Int) + 1 := fun _ => hno
      clear hno hci
      by_cases hs : p.getD s.toNat 0 = (k : Int) + 1
      · rw [decide_eq_true hs] at hocc
        have hs' : True → p.getD s.toNat 0 = (k : Int) + 1 := fun _ => hs
        clear hs
        go_wp2_with (first
          | (go_at_call 57; refine (bo_get _ _ _ _ _ _ _ k _ hg hlt).mono ?_; rintro e1 w1 ⟨rfl, rfl⟩)
          | (go_at_call 58; refine (sq_occupied _ s _ h0 h1).mono ?_; rintro e2 w2 ⟨rfl, rfl⟩))
        go_ret
        refine ⟨?_, rfl⟩
        rw [hs' trivial]
        rfl
      · rw [decide_eq_false hs] at hocc
        have hs' : True → p.getD s.toNat 0 ≠ (k : Int) + 1 := fun _ => hs
        clear hs
        go_wp2_with (first
          | (go_at_call 57; refine (bo_get _ _ _ _ _ _ _ k _ hg hlt).mono ?_; rintro e1 w1 ⟨rfl, rfl⟩)
          | (go_at_call 58; refine (sq_occupied _ s _ h0 h1).mono ?_; rintro e2 w2 ⟨rfl, rfl⟩))
        go_roundw
        case rel =>
          refine ⟨k + 1, by omega, by go_num, trivial, fun j hj => ?_⟩
          by_cases e : j = k
          · subst e; exact hs' trivial
          · exact hno' trivial j (by omega)
        case measure => simp [intOf]; omega
    · obtain rfl : k = 12 := by omega
      have h12 : p.getD s.toNat 0 = 0 := by
        by_cases h : p.getD s.toNat 0 = 0
        · exact h
        · exact absurd (by omega) (hno (p.getD s.toNat 0 - 1).toNat (by omega))
      clear hno hci
      go_wp2_with fail
      go_ret
      refine ⟨?_, rfl⟩
      rw [h12]
      rfl

/-- What is reckoned besides: all white, all black, all empty squares, and where the kings stand. -/
theorem bo_calc (p : List Int) (a b c d e : Value) (ha : a.oneCell' = true) (g : Nat) (w : World) (hg : w.heap[g]? = some (.cells (brdF (bbF p) a b c d e) 59 (0, 0))) :
    Calls Tryd.prog 51 #[.pointer (some ⟨g, 0, none⟩), .pointer none] w fun e' w' => e' = .returned (.tuple #[]) ∧ w'.heap[g]? = some (.cells (brd p) 59 (0, 0)) ∧ Only g w w' := by
  have c0 : w.cell? ⟨g, 0, none⟩ = some (bbv (bb p 1)) := cell_of_row w g 0 _ _ _ hg
  have c1 : w.cell? ⟨g, 1, none⟩ = some (bbv (bb p 2)) := cell_of_row w g 1 _ _ _ hg
  have c2 : w.cell? ⟨g, 2, none⟩ = some (bbv (bb p 3)) := cell_of_row w g 2 _ _ _ hg
  have c3 : w.cell? ⟨g, 3, none⟩ = some (bbv (bb p 4)) := cell_of_row w g 3 _ _ _ hg
  have c4 : w.cell? ⟨g, 4, none⟩ = some (bbv (bb p 5)) := cell_of_row w g 4 _ _ _ hg
  have c5 : w.cell? ⟨g, 5, none⟩ = some (bbv (bb p 6)) := cell_of_row w g 5 _ _ _ hg
  have c6 : w.cell? ⟨g, 6, none⟩ = some (bbv (bb p 7)) := cell_of_row w g 6 _ _ _ hg
  have c7 : w.cell? ⟨g, 7, none⟩ = some (bbv (bb p 8)) := cell_of_row w g 7 _ _ _ hg
  have c8 : w.cell? ⟨g, 8, none⟩ = some (bbv (bb p 9)) := cell_of_row w g 8 _ _ _ hg
  have c9 : w.cell? ⟨g, 9, none⟩ = some (bbv (bb p 10)) := cell_of_row w g 9 _ _ _ hg
  have c10 : w.cell? ⟨g, 10, none⟩ = some (bbv (bb p 11)) := cell_of_row w g 10 _ _ _ hg
  have c11 : w.cell? ⟨g, 11, none⟩ = some (bbv (bb p 12)) := cell_of_row w g 11 _ _ _ hg
  go_enter Tryd.func51, Tryd.ntmps51
  go_wp2_with fail
  go_quiet (fail)
  go_wp2_with fail
  go_quiet (fail)
  clear c0 c1 c2 c3 c4 c5 c6 c7 c8 c9 c10 c11
  generalize hW : World.drewN _ _ = W
  have hgW : W.heap[g]? = some (.cells (brdF (bbF p) a b c d e) 59 (0, 0)) := by rw [← hW]; exact hg
  have hO : Only g w W := by rw [← hW]; exact ((Only.refl g w).drewN _).drewN _
  clear hW hg
  have c12 : W.cell? ⟨g, 12, none⟩ = some a := cell_of_row W g 12 _ _ _ hgW
  have c13 : W.cell? ⟨g, 13, none⟩ = some b := cell_of_row W g 13 _ _ _ hgW
  have c14 : W.cell? ⟨g, 14, none⟩ = some c := cell_of_row W g 14 _ _ _ hgW
  have c15 : W.cell? ⟨g, 15, none⟩ = some d := cell_of_row W g 15 _ _ _ hgW
  have c16 : W.cell? ⟨g, 16, none⟩ = some e := cell_of_row W g 16 _ _ _ hgW
  have f12 := frozen_of_row W g 12 _ _ hgW
  have f13 := frozen_of_row W g 13 _ _ hgW
  have f14 := frozen_of_row W g 14 _ _ hgW
  have f15 := frozen_of_row W g 15 _ _ hgW
  have f16 := frozen_of_row W g 16 _ _ hgW
  go_wp2_with fail
  go_simp
  go_wp2_with fail
  go_simp
  go_wp2_with fail
  go_simp
  go_wp2_with fail
  clear c12 c13 c14 c15 c16 f12 f13 f14 f15 f16
  generalize hW2 : World.setCell _ _ _ = W2
  have hgW2 : W2.heap[g]? = some (.cells (brdF (bbF p) (bbv (whiteB p)) (bbv (blackB p)) (bbv (~~~(whiteB p ||| blackB p))) (.int .i8 (-1)) (.int .i8 (-1))) 59 (0, 0)) := by
    rw [← hW2]
    have h1 := heap_setCell_same W g 12 _ _ (bbv (whiteB p)) hgW
    have h2 := heap_setCell_same _ g 13 _ _ (bbv (blackB p)) h1
    have h3 := heap_setCell_same _ g 14 _ _ (bbv (~~~(whiteB p ||| blackB p))) h2
    have h4 := heap_setCell_same _ g 15 _ _ (.int .i8 (-1)) h3
    exact heap_setCell_same _ g 16 _ _ (.int .i8 (-1)) h4
  have hO2 : Only g w W2 := by rw [← hW2]; exact ((((hO.setCell _ _).setCell _ _).setCell _ _).setCell _ _).setCell _ _
  clear hW2 hgW hO
  go_loopw [92] (fun i wr => ∃ k : Nat, k ≤ 64 ∧ i = .int .i64 (k : Int) ∧ wr.heap[g]? = some (.cells (brdF (bbF p) (bbv (whiteB p)) (bbv (blackB p)) (bbv (~~~(whiteB p ||| blackB p))) (.int .i8 (lastK p 1 k)) (.int .i8 (lastK p 7 k))) 59 (0, 0)) ∧ Only g w wr) (fun i _ => (64 - intOf i).toNat)
  case atStart => exact ⟨0, by omega, rfl, hgW2, hO2⟩
  case round =>
    obtain ⟨k, hk, rfl, hgr, hOr⟩ := hrel
    clear hgW2 hO2
    by_cases hlt : k < 64
    · have c0 : wr.cell? ⟨g, 0, none⟩ = some (bbv (bb p 1)) := cell_of_row wr g 0 _ _ _ hgr
      have c6 : wr.cell? ⟨g, 6, none⟩ = some (bbv (bb p 7)) := cell_of_row wr g 6 _ _ _ hgr
      have c15 : wr.cell? ⟨g, 15, none⟩ = some (.int .i8 (lastK p 1 k)) := cell_of_row wr g 15 _ _ _ hgr
      have c16 : wr.cell? ⟨g, 16, none⟩ = some (.int .i8 (lastK p 7 k)) := cell_of_row wr g 16 _ _ _ hgr
      have f15 := frozen_of_row wr g 15 _ _ hgr
      have f16 := frozen_of_row wr g 16 _ _ hgr
      have o1 : occ (bb p 1) k = decide (p.getD k 0 = 1) := occ_bb p 1 k hlt
      have o7 : occ (bb p 7) k = decide (p.getD k 0 = 7) := occ_bb p 7 k hlt
      have hhid : True → _ := fun _ => And.intro hgr hOr
      clear hgr hOr
      by_cases h1 : p.getD k 0 = 1
      · rw [decide_eq_true h1] at o1
        have e1 : True → lastK p 1 (k + 1) = (k : Int) := fun _ => by rw [lastK, if_pos h1]
        have e7 : True → lastK p 7 (k + 1) = lastK p 7 k := fun _ => by rw [lastK, if_neg (by omega)]
        clear o7 h1
        go_wp2_with (go_at_call 58; refine (sq_occupied _ (k : Int) _ (by omega) (by omega)).mono ?_; rintro e1 w1 ⟨rfl, rfl⟩)
        go_roundw
        case rel =>
          obtain ⟨hgr, hOr⟩ := hhid trivial
          refine ⟨k + 1, by omega, by go_num, ?_, hOr.setCell _ _⟩
          rw [e1 trivial, e7 trivial]
          exact heap_setCell_same wr g 15 _ _ (.int .i8 (k : Int)) hgr
        case measure => simp [intOf]; omega
      rw [decide_eq_false h1] at o1
      have e1 : True → lastK p 1 (k + 1) = lastK p 1 k := fun _ => by rw [lastK, if_neg h1]
      clear h1
      by_cases h7 : p.getD k 0 = 7
      · rw [decide_eq_true h7] at o7
        have e7 : True → lastK p 7 (k + 1) = (k : Int) := fun _ => by rw [lastK, if_pos h7]
        clear h7
        go_wp2_with (go_at_call 58; refine (sq_occupied _ (k : Int) _ (by omega) (by omega)).mono ?_; rintro e1 w1 ⟨rfl, rfl⟩)
        go_roundw
        case rel =>
          obtain ⟨hgr, hOr⟩ := hhid trivial
          refine ⟨k + 1, by omega, by go_num, ?_, hOr.setCell _ _⟩
          rw [e1 trivial, e7 trivial]
          exact heap_setCell_same wr g 16 _ _ (.int .i8 (k : Int)) hgr
        case measure => simp [intOf]; omega
      · rw [decide_eq_false h7] at o7
        have e7 : True → lastK p 7 (k + 1) = lastK p 7 k := fun _ => by rw [lastK, if_neg h7]
        clear h7
        go_wp2_with (go_at_call 58; refine (sq_occupied _ (k : Int) _ (by omega) (by omega)).mono ?_; rintro e1 w1 ⟨rfl, rfl⟩)
        go_roundw
        case rel =>
          obtain ⟨hgr, hOr⟩ := hhid trivial
          refine ⟨k + 1, by omega, by go_num, ?_, hOr⟩
          rw [e1 trivial, e7 trivial]
          exact hgr
        case measure => simp [intOf]; omega
    · obtain rfl : k = 64 := by omega
      have hhid : True → _ := fun _ => And.intro hgr hOr
      clear hgr hOr
      go_wp2_with fail
      go_end0
      exact ⟨rfl, hhid trivial⟩
end Go.Proofs.YtnpklkenjaambaaDoor
