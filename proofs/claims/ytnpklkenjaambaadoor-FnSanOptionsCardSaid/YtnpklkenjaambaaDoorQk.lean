/- FnSanOptions: the other texts that a text of a piece's move may stand for are those without its square of departure, with its file alone, and with its rank alone. For every text. -/
import Derived.Test.YtnpklkenjaambaaDoorQj
namespace Go.Proofs.YtnpklkenjaambaaDoor
open Go Go.RowKit
set_option maxHeartbeats 8000000
set_option linter.unusedSimpArgs false
set_option linter.unusedVariables false
set_option maxRecDepth 100000

theorem bs_app (a b : List UInt8) : bs a ++ bs b = bs (a ++ b) := by
  apply ByteArray.ext
  rw [ByteArray.data_append]
  simp [bs]
/-- The parts that are good and begin with a piece, without a promotion, are the package's. -/
theorem qk_good (T : List UInt8) (l : List (List UInt8)) (h : GoodP T l) (h0 : l.getD 0 [] ≠ []) (h6 : l.getD 6 [] = []) :
    ∃ b c d, b ≤ 1 ∧ c ≤ 1 ∧ d ≤ 1 ∧ atB pcsL T 0 = true ∧ okC T 1 b c d = true ∧ prL T (1 + b + c + d + 2) = 0 ∧ tailB (T.drop (1 + b + c + d + 2)) = true ∧ l = eightL T b c d := by
  obtain ⟨a, b, c, d, ha, hb, hc, hd, hp, hok, htl, rfl⟩ := h
  have ha1 : a = 1 := by
    rcases (show a = 0 ∨ a = 1 by omega) with rfl | rfl
    · exact absurd rfl h0
    · rfl
  subst ha1
  have h6' : (T.drop (1 + b + c + d + 2)).take (prL T (1 + b + c + d + 2)) = [] := h6
  have hend := end_le hok
  have hpr : prL T (1 + b + c + d + 2) = 0 := by
    have hh := congrArg List.length h6'
    rw [List.length_take, List.length_drop, List.length_nil] at hh
    omega
  rw [hpr] at htl
  exact ⟨b, c, d, hb, hc, hd, hp.1 rfl, hok, hpr, htl, rfl⟩
theorem eight_small (T : List UInt8) (b c d : Nat) (hb : b ≤ 1) (hc : c ≤ 1) (hd : d ≤ 1) (hpr : prL T (1 + b + c + d + 2) = 0) (p0 p1 p2 p3 p4 p5 p6 p7 : List UInt8) (h : [p0, p1, p2, p3, p4, p5, p6, p7] = eightL T b c d) : p0.length + p1.length + p2.length + p3.length + p4.length + p5.length + p6.length + p7.length ≤ 1000 := by
  obtain ⟨q0, q1, q2, q3, q4, q5, q6, q7, he, _, hs⟩ := eight_sum T b c d hb hc hd hpr
  rw [he] at h
  injection h with h0 h
  injection h with h1 h
  injection h with h2 h
  injection h with h3 h
  injection h with h4 h
  injection h with h5 h
  injection h with h6 h
  injection h with h7 h
  subst h0 h1 h2 h3 h4 h5 h6 h7
  exact hs
/-- The three texts as the statement wants them. -/
def wantL (l : List (List UInt8)) : List (List UInt8) :=
  [l.getD 0 [] ++ l.getD 3 [] ++ l.getD 4 [] ++ l.getD 5 [], l.getD 0 [] ++ l.getD 1 [] ++ l.getD 3 [] ++ l.getD 4 [] ++ l.getD 5 [], l.getD 0 [] ++ l.getD 2 [] ++ l.getD 3 [] ++ l.getD 4 [] ++ l.getD 5 []]
theorem opts_want (l : List (List UInt8)) (h6 : l.getD 6 [] = []) (h7 : l.getD 7 [] = []) : ∃ x y z, wantL l = [x, y, z] ∧ optsL l = [x, z, y] := by
  refine ⟨_, _, _, rfl, ?_⟩
  unfold optsL
  rw [h6, h7]
  simp only [List.append_nil]
theorem own_cells {w : World} {base : Nat} {e : TypeId} {v : Value} {xs : List (List UInt8)} (h : w.ownsRow base e 1 v 3 (strsV xs)) (hl : xs.length = 3) : ∃ g cap, v = .slice (some ⟨g, 0, none⟩) 3 cap ∧ ∀ k, k < 3 → w.cell? ⟨g, k, none⟩ = some (.string (bs (xs.getD k []))) := by
  obtain ⟨h1, ⟨_, h0⟩ | ⟨g, cap, cur, rfl, hb, hg, hc, hm, hs, ht⟩⟩ := h
  · cases h0
  · refine ⟨g, cap, rfl, fun k hk => ?_⟩
    rw [cell_of_row w g k _ _ _ hg]
    have e1 : (cur.toList.take (3 * 1))[k]? = (strsV xs)[k]? := by rw [ht]
    rw [List.getElem?_take_of_lt (by omega)] at e1
    rw [← Array.getElem?_toList, e1]
    unfold strsV
    rw [List.getElem?_map, List.getD_eq_getElem?_getD, List.getElem?_eq_getElem (by omega)]
    rfl
theorem qk_law (s : ByteArray) (hs0 : s.size ≤ 140737488351232) (w : World) :
    Calls Tryd.prog 3 #[.string s] w fun e w' => e = .returned (.bool true) ∧ Below w.heap.size w w' := by
  by_cases hm : (2147483647 : Int) < (s.size : Int)
  · go_enter Tryd.func3, Tryd.ntmps3
    go_wp2_with fail
    go_ret
    exact ⟨rfl, Below.refl _ _⟩
  by_cases h100 : (100 : Int) < (s.size : Int)
  · go_enter Tryd.func3, Tryd.ntmps3
    go_wp2_with fail
    go_ret
    exact ⟨rfl, Below.refl _ _⟩
  obtain ⟨T, rfl⟩ : ∃ T, s = bs T := ⟨_, bs_of s⟩
  have hsz := bs_size T
  rw [hsz] at hm h100
  have hl : T.length ≤ 200 := by omega
  have hspec := qlay (qd_parts T hl)
  go_enter Tryd.func3, Tryd.ntmps3
  go_wp2_with fail
  refine (hspec.out _).mono ?_
  rintro e w1 ⟨q1, l, is, hlen, rfl, hgood⟩
  have hgs := qlay hgood
  have q1 := qlay q1
  clear hgood hspec
  obtain ⟨p0, p1, p2, p3, p4, p5, p6, p7, rfl⟩ : ∃ p0 p1 p2 p3 p4 p5 p6 p7, l = [p0, p1, p2, p3, p4, p5, p6, p7] := by
    match l, hlen with
    | [p0, p1, p2, p3, p4, p5, p6, p7], _ => exact ⟨p0, p1, p2, p3, p4, p5, p6, p7, rfl⟩
  clear hlen
  go_upto_region 6 with ((with_reducible refine at_new_row (strsR [p0, p1, p2, p3, p4, p5, p6, p7]) ?_ ?_ ?_ ?_ ?_ ?_); kernel_rfl; rfl; exact strsR_one _; rfl; rfl; intro W2 rW2 hC2)
  have q2 := qlay (q1.out.trans (hC2.mono q1.out.size))
  have c0 : W2.cell? ⟨w1.heap.size, 0, none⟩ = some (.string (bs p0)) := cell_of_row _ _ 0 _ _ _ rW2
  have c1 : W2.cell? ⟨w1.heap.size, 1, none⟩ = some (.string (bs p1)) := cell_of_row _ _ 1 _ _ _ rW2
  have c2 : W2.cell? ⟨w1.heap.size, 2, none⟩ = some (.string (bs p2)) := cell_of_row _ _ 2 _ _ _ rW2
  have c3 : W2.cell? ⟨w1.heap.size, 3, none⟩ = some (.string (bs p3)) := cell_of_row _ _ 3 _ _ _ rW2
  have c4 : W2.cell? ⟨w1.heap.size, 4, none⟩ = some (.string (bs p4)) := cell_of_row _ _ 4 _ _ _ rW2
  have c5 : W2.cell? ⟨w1.heap.size, 5, none⟩ = some (.string (bs p5)) := cell_of_row _ _ 5 _ _ _ rW2
  have c6 : W2.cell? ⟨w1.heap.size, 6, none⟩ = some (.string (bs p6)) := cell_of_row _ _ 6 _ _ _ rW2
  have c7 : W2.cell? ⟨w1.heap.size, 7, none⟩ = some (.string (bs p7)) := cell_of_row _ _ 7 _ _ _ rW2
  clear rW2 hC2 q1
  cases is with
  | false =>
    go_wp2_with fail
    go_ret
    exact ⟨rfl, q2.out⟩
  | true =>
    by_cases h0 : p0 = []
    · have e0 : ((bs p0).toList == []) = true := by rw [bs_list]; simpa using h0
      clear h0
      go_wp2_with fail
      go_ret
      exact ⟨rfl, q2.out⟩
    · have e0 : ((bs p0).toList == []) = false := by rw [bs_list]; simpa using h0
      by_cases hP : p0 = [80]
      · have e1 : ((bs p0).toList == [80]) = true := by rw [bs_list]; simpa using hP
        clear h0 hP
        go_wp2_with fail
        go_ret
        exact ⟨rfl, q2.out⟩
      · have e1 : ((bs p0).toList == [80]) = false := by rw [bs_list]; simpa using hP
        clear hP
        by_cases h6 : p6 = []
        · have e6 : ((bs p6).toList == []) = true := by rw [bs_list]; simpa using h6
          by_cases h7 : p7 = []
          · have e7 : ((bs p7).toList == []) = true := by rw [bs_list]; simpa using h7
            obtain ⟨b, c, d, hb, hc, hd, hp, hok, hpr, htl, heq⟩ := qk_good T _ ((hgs.out rfl).resolve_left (fun h => h h7)) h0 h6
            have himp := qlay (qj_impl T b c d hl hb hc hd hp hok hpr htl)
            rw [← heq] at himp
            obtain ⟨x, y, z, hw1, hw2⟩ := opts_want [p0, p1, p2, p3, p4, p5, p6, p7] h6 h7
            rw [hw2] at himp
            have hsm := eight_small T b c d hb hc hd hpr _ _ _ _ _ _ _ _ heq
            clear heq hp hok hpr htl h0 h6 h7 hw2 hgs
            have za0 : (bs p0).size + (bs p3).size ≤ 9223372036854775807 := by simp only [bs_size]; omega
            have za1 : (bs p0).size + (bs p3).size + (bs p4).size ≤ 9223372036854775807 := by simp only [bs_size]; omega
            have za2 : (bs p0).size + (bs p3).size + (bs p4).size + (bs p5).size ≤ 9223372036854775807 := by simp only [bs_size]; omega
            have zb0 : (bs p0).size + (bs p1).size ≤ 9223372036854775807 := by simp only [bs_size]; omega
            have zb1 : (bs p0).size + (bs p1).size + (bs p3).size ≤ 9223372036854775807 := by simp only [bs_size]; omega
            have zb2 : (bs p0).size + (bs p1).size + (bs p3).size + (bs p4).size ≤ 9223372036854775807 := by simp only [bs_size]; omega
            have zb3 : (bs p0).size + (bs p1).size + (bs p3).size + (bs p4).size + (bs p5).size ≤ 9223372036854775807 := by simp only [bs_size]; omega
            have zc0 : (bs p0).size + (bs p2).size ≤ 9223372036854775807 := by simp only [bs_size]; omega
            have zc1 : (bs p0).size + (bs p2).size + (bs p3).size ≤ 9223372036854775807 := by simp only [bs_size]; omega
            have zc2 : (bs p0).size + (bs p2).size + (bs p3).size + (bs p4).size ≤ 9223372036854775807 := by simp only [bs_size]; omega
            have zc3 : (bs p0).size + (bs p2).size + (bs p3).size + (bs p4).size + (bs p5).size ≤ 9223372036854775807 := by simp only [bs_size]; omega
            go_upto_region 9 with fail
            injection hw1 with ex hw1
            injection hw1 with ey hw1
            injection hw1 with ez hw1
            change p0 ++ p3 ++ p4 ++ p5 = x at ex
            change p0 ++ p1 ++ p3 ++ p4 ++ p5 = y at ey
            change p0 ++ p2 ++ p3 ++ p4 ++ p5 = z at ez
            simp only [bs_app, ex, ey, ez]
            have ra := heap_alloc_new W2 (.cells #[.string (bs x), .string (bs y), .string (bs z)] 9)
            have q3 := qlay (q2.out.alloc q2.out.size (.cells #[.string (bs x), .string (bs y), .string (bs z)] 9))
            have hsw : W2.heap.size < (W2.alloc (.cells #[.string (bs x), .string (bs y), .string (bs z)] 9)).heap.size := by simp
            change Code.wp _ _ _ _ (W2.alloc (.cells #[.string (bs x), .string (bs y), .string (bs z)] 9))
            generalize W2.alloc (.cells #[.string (bs x), .string (bs y), .string (bs z)] 9) = W3 at *
            clear za0 za1 za2 zb0 zb1 zb2 zb3 zc0 zc1 zc2 zc3 c0 c1 c2 c3 c4 c5 c6 c7 e0 e1 e6 e7 ex ey ez hw1 q2 hsm
            go_wp2_with fail
            refine (himp.out _).mono ?_
            rintro e w4 ⟨v, rfl, hown, q4⟩
            obtain ⟨g, cap, rfl, hgc⟩ := own_cells hown rfl
            have hwc : ∀ k, k < 3 → w4.cell? ⟨W2.heap.size, k, none⟩ = some (.string (bs ([x, y, z].getD k []))) := by
              intro k hk
              rw [cell_of_row w4 W2.heap.size k _ _ _ ((q4.block _ hsw).trans ra)]
              match k, hk with
              | 0, _ => rfl
              | 1, _ => rfl
              | 2, _ => rfl
            have hbf := qlay (q3.out.trans (q4.mono q3.out.size))
            have hA : ∀ q, Calls Tryd.prog 8 #[.slice (some ⟨W2.heap.size, 0, none⟩) 3 3, .slice (some ⟨g, 0, none⟩) 3 cap] (w4.drewN q) fun e w' => e = .returned (.bool true) ∧ ∃ q', w' = (w4.drewN q).drewN q' := fun q =>
              qj_within [x, y, z] [x, z, y] _ _ _ _ _ (by simp) (by simp) (fun k hk => by rw [World.cell?_drewN]; exact hwc k hk) (fun k hk => by rw [World.cell?_drewN]; exact hgc k hk) (fun k hk => by
                match k, hk with
                | 0, _ => simp
                | 1, _ => simp
                | 2, _ => simp)
            have hB : ∀ q, Calls Tryd.prog 8 #[.slice (some ⟨g, 0, none⟩) 3 cap, .slice (some ⟨W2.heap.size, 0, none⟩) 3 3] (w4.drewN q) fun e w' => e = .returned (.bool true) ∧ ∃ q', w' = (w4.drewN q).drewN q' := fun q =>
              qj_within [x, z, y] [x, y, z] _ _ _ _ _ (by simp) (by simp) (fun k hk => by rw [World.cell?_drewN]; exact hgc k hk) (fun k hk => by rw [World.cell?_drewN]; exact hwc k hk) (fun k hk => by
                match k, hk with
                | 0, _ => simp
                | 1, _ => simp
                | 2, _ => simp)
            have hA := qlay hA
            have hB := qlay hB
            clear hgc hwc hown q4 ra q3 hsw himp
            go_wp2_with fail
            refine (hA.out 0).mono ?_
            rintro e w5 ⟨rfl, n5, rfl⟩
            have e5 : ((w4.drewN 0).drewN n5) = w4.drewN n5 := rfl
            rw [e5]
            go_wp2_with fail
            refine (hB.out n5).mono ?_
            rintro e w6 ⟨rfl, n6, rfl⟩
            go_wp2_with fail
            go_ret
            exact ⟨rfl, hbf.out.trans ((drewN_below w4 _).mono hbf.out.size)⟩
          · have e7 : ((bs p7).toList == []) = false := by rw [bs_list]; simpa using h7
            clear h0 h6 h7
            go_wp2_with fail
            go_ret
            exact ⟨rfl, q2.out⟩
        · have e6 : ((bs p6).toList == []) = false := by rw [bs_list]; simpa using h6
          clear h0 h6
          go_wp2_with fail
          go_ret
          exact ⟨rfl, q2.out⟩
end Go.Proofs.YtnpklkenjaambaaDoor
