/- spec.Reach: the squares that a piece attacks, for every position as a list of 69 integers. -/
import Derived.Test.YtplkcmlpomjojaaDoorPo
import Derived.Test.YtplkcmlpomjojaaDoorPc
namespace Go.Proofs.YtplkcmlpomjojaaDoor
open Go Go.RowKit
set_option maxHeartbeats 4000000
set_option linter.unusedSimpArgs false
set_option linter.unusedVariables false
set_option maxRecDepth 100000

theorem quiet' {P : Program} {f : FuncId} {args : Array Value} {w : World} {n : Nat} {v : Value}
    (h : Calls P f args (w.drewN n) fun e w' => e = .returned v ∧ w.drewN n = w') : Calls P f args (w.drewN n) fun e w'' => e = .returned v ∧ ∃ m, w'' = w.drewN m :=
  h.mono fun _ _ ⟨he, hm⟩ => ⟨he, n, hm.symm⟩

/-- The squares along one way, from the n-th on. -/
def ray (B : Int → Int) (far : Bool) (f r df dr : Int) : Nat → Nat → List Int
  | _, 0 => []
  | n, m + 1 => if atSq (f + n * df) (r + n * dr) < 0 then [] else if far = false ∨ B (atSq (f + n * df) (r + n * dr)) ≠ 0 then [atSq (f + n * df) (r + n * dr)] else atSq (f + n * df) (r + n * dr) :: ray B far f r df dr (n + 1) m
def rays (B : Int → Int) (far : Bool) (f r : Int) : List Int → List Int
  | df :: dr :: l => ray B far f r df dr 1 7 ++ rays B far f r l
  | _ => []
theorem ray_le (B : Int → Int) (far : Bool) (f r df dr : Int) : ∀ n m, (ray B far f r df dr n m).length ≤ m
  | _, 0 => by simp [ray]
  | n, m + 1 => by
    have := ray_le B far f r df dr (n + 1) m
    unfold ray
    split
    · simp
    · split
      · simp
      · simp; exact this
theorem rays_le (B : Int → Int) (far : Bool) (f r : Int) : ∀ l : List Int, (rays B far f r l).length ≤ 7 * (l.length / 2)
  | [] => by simp [rays]
  | [_] => by simp [rays]
  | df :: dr :: l => by
    have h1 := ray_le B far f r df dr 1 7
    have h2 := rays_le B far f r l
    simp only [rays, List.length_append, List.length_cons]
    omega
def reach (p : List Int) (s : Int) : List Int := rays (pcAt p) (farL (kindOf (pcAt p s))) (s % 8) (s / 8) (waysL (kindOf (pcAt p s)))
theorem waysL_le (k : Int) : (waysL k).length ≤ 16 := by unfold waysL; split <;> first | decide | (split <;> first | decide | (split <;> decide))
theorem waysL_small (k : Int) : ∀ x ∈ waysL k, -2 ≤ x ∧ x ≤ 2 := by
  unfold waysL; split <;> first | decide | (split <;> first | decide | (split <;> decide))
theorem reach_le (p : List Int) (s : Int) : (reach p s).length ≤ 56 := by
  have h1 := rays_le (pcAt p) (farL (kindOf (pcAt p s))) (s % 8) (s / 8) (waysL (kindOf (pcAt p s)))
  have h2 := waysL_le (kindOf (pcAt p s))
  unfold reach
  omega
theorem atSq_range (f r : Int) : -1 ≤ atSq f r ∧ atSq f r ≤ 63 := by unfold atSq; split <;> omega
theorem rays_drop (B : Int → Int) (far : Bool) (f r : Int) (l : List Int) (k : Nat) (h : 2 * k + 1 < l.length) :
    rays B far f r (l.drop (2 * k)) = ray B far f r (l.getD (2 * k) 0) (l.getD (2 * k + 1) 0) 1 7 ++ rays B far f r (l.drop (2 * (k + 1))) := by
  have e : l.drop (2 * k) = l.getD (2 * k) 0 :: l.getD (2 * k + 1) 0 :: l.drop (2 * (k + 1)) := by
    rw [List.drop_eq_getElem_cons (by omega), List.drop_eq_getElem_cons (by omega)]
    simp [show 2 * (k + 1) = 2 * k + 1 + 1 by omega, List.getElem?_eq_getElem, h, show 2 * k < l.length by omega]
  rw [e]
  rfl
theorem mul_small (n : Nat) (d : Int) (h : n ≤ 8) (h1 : -2 ≤ d) (h2 : d ≤ 2) : -16 ≤ (n : Int) * d ∧ (n : Int) * d ≤ 16 := by
  have e : d = -2 ∨ d = -1 ∨ d = 0 ∨ d = 1 ∨ d = 2 := by omega
  rcases e with rfl | rfl | rfl | rfl | rfl <;> omega
theorem po_info1 : (Tryd.prog.info? 3).map (fun i => (i.zero, i.size, i.bytes)) = some (some (.int .i64 0), 1, 8) := by kernel_rfl

abbrev ownInts (w : World) (base : Nat) (v : Value) (l : List Int) : Prop := w.ownsRow base 3 1 v l.length (l.map (Value.int .i64))

theorem ray_range (B : Int → Int) (far : Bool) (f r df dr : Int) : ∀ n m, ∀ z ∈ ray B far f r df dr n m, 0 ≤ z ∧ z ≤ 63
  | _, 0 => by simp [ray]
  | n, m + 1 => by
    intro z hz
    have h := ray_range B far f r df dr (n + 1) m z
    have ha := atSq_range (f + n * df) (r + n * dr)
    unfold ray at hz
    split at hz
    · cases hz
    · split at hz
      · simp at hz; omega
      · simp at hz
        rcases hz with rfl | hz
        · omega
        · exact h hz
theorem rays_range (B : Int → Int) (far : Bool) (f r : Int) : ∀ l : List Int, ∀ z ∈ rays B far f r l, 0 ≤ z ∧ z ≤ 63
  | [] => by simp [rays]
  | [_] => by simp [rays]
  | df :: dr :: l => by
    intro z hz
    simp only [rays, List.mem_append] at hz
    rcases hz with hz | hz
    · exact ray_range _ _ _ _ _ _ _ _ z hz
    · exact rays_range B far f r l z hz
theorem reach_range (p : List Int) (s : Int) : ∀ z ∈ reach p s, 0 ≤ z ∧ z ≤ 63 := rays_range _ _ _ _ _

theorem re_reach0 (p : List Int) (s : Int) (w : World) (hp : p.length = 69) (hbs : pcAt p s < 4294967296) (h0 : 0 ≤ s) (h1 : s ≤ 63) :
    Calls Tryd.prog 43 #[.agg (ints p), .int .i64 s] w fun e w' => ∃ v, e = .returned v ∧ ownInts w' w.heap.size v (reach p s) ∧ Below w.heap.size w w' := by
  obtain ⟨i0, hi, hz0, hz1, hz2⟩ := info_parts po_info1
  go_enter Tryd.func43, Tryd.ntmps43
  have hs0 : (ints p)[s.toNat]? = some (.int .i64 (pcAt p s)) := ints_get p _ (by omega)
  have hc0 : (w.alloc (.cells (ints p) 24)).cell? ⟨w.heap.size, s.toNat, none⟩ = some (.int .i64 (pcAt p s)) := (cell_of_row _ _ _ _ _ _ (heap_alloc_new w _)).trans hs0
  go_wp2_with (first | (go_at_call 24; refine (po_kindOf _ _ (hbs)).mono ?_; rintro e w1 ⟨rfl, rfl⟩) | (go_at_call 60; refine (po_ways _ _).mono ?_; rintro e w1 ⟨ws, rfl, hws, hbw⟩))
  obtain ⟨g, cap, rfl, hg0, hg1, hg2, hg3⟩ := hws
  have hz := hbw.size
  have hza : (w.alloc (.cells (ints p) 24)).heap.size = w.heap.size + 1 := by simp
  rw [hza] at hz hg0
  have hbd : ∀ i : Nat, i < 69 → w1.cell? ⟨w.heap.size, i, none⟩ = some (.int .i64 (p.getD i 0)) := fun i hi => by
    rw [hbw.cell (p := ⟨w.heap.size, i, none⟩) (by simp), cell_of_row _ _ _ _ _ _ (heap_alloc_new w _)]
    exact ints_get p i (by omega)
  have hR : rays (pcAt p) (farL (kindOf (pcAt p s))) (s % 8) (s / 8) ((waysL (kindOf (pcAt p s))).drop (2 * 0)) = reach p s := rfl
  have hlen := waysL_le (kindOf (pcAt p s))
  have hsmall := waysL_small (kindOf (pcAt p s))
  have hRl := reach_le p s
  generalize hLd : (waysL (kindOf (pcAt p s))) = ws at *
  generalize farL (kindOf (pcAt p s)) = far at *
  generalize hT : reach p s = total at *
  clear hbs hc0 hs0
  go_loopw [7, 8] (fun l i wr => ∃ (k : Nat) (xs : List Int), k ≤ ws.length / 2 ∧ i = .int .i64 (k : Int) ∧ ownInts wr w1.heap.size l xs ∧ xs ++ rays (pcAt p) far (s % 8) (s / 8) (ws.drop (2 * k)) = total ∧ Below w1.heap.size w1 wr) (fun _ i _ => (ws.length / 2 - (intOf i).toNat))
  case atStart => exact ⟨0, [], by omega, rfl, World.ownsRow_nil _ _ _ _, by simpa using hR, Below.refl _ _⟩
  case round =>
    obtain ⟨k, xs, hk, rfl, hown, htot, hbr⟩ := hrel
    by_cases hlt : k < ws.length / 2
    · rw [rays_drop _ _ _ _ _ _ (by omega)] at htot
      have hdf := hsmall (ws.getD (2 * k) 0) (by simp [show 2 * k < ws.length by omega])
      have hdr := hsmall (ws.getD (2 * k + 1) 0) (by simp [show 2 * k + 1 < ws.length by omega])
      have hcf := hg3 (2 * k) (by omega)
      have hcr := hg3 (2 * k + 1) (by omega)
      generalize ws.getD (2 * k) 0 = df at *
      generalize ws.getD (2 * k + 1) 0 = dr at *
      generalize hrest : rays (pcAt p) far (s % 8) (s / 8) (ws.drop (2 * (k + 1))) = rest at *
      go_wp2_with fail
      go_loopw [7, 9] (fun l i wr => ∃ (n : Nat) (xs : List Int), 1 ≤ n ∧ n ≤ 8 ∧ i = .int .i64 (n : Int) ∧ ownInts wr w1.heap.size l xs ∧ xs ++ (ray (pcAt p) far (s % 8) (s / 8) df dr n (8 - n) ++ rest) = total ∧ Below w1.heap.size w1 wr) (fun _ i _ => (8 - (intOf i).toNat))
      case atStart => exact ⟨1, xs, by omega, by omega, rfl, hown, htot, hbr⟩
      case round =>
        clear hown htot hbr
        obtain ⟨n, xs, hn1, hn8, rfl, hown, htot, hbr⟩ := hrel
        by_cases hn : n < 8
        · have hm1 := mul_small n df (by omega) hdf.1 hdf.2
          have hm2 := mul_small n dr (by omega) hdr.1 hdr.2
          have hat := atSq_range (s % 8 + n * df) (s / 8 + n * dr)
          have hof : (g : Nat) < w1.heap.size := hg1
          have hcf' : wr.cell? ⟨g, k * 2, none⟩ = some (.int .i64 df) := by rw [hbr.cell (p := ⟨g, k * 2, none⟩) hg1, Nat.mul_comm]; exact hcf
          have hcr' : wr.cell? ⟨g, k * 2 + 1, none⟩ = some (.int .i64 dr) := by rw [hbr.cell (p := ⟨g, k * 2 + 1, none⟩) hg1, Nat.mul_comm]; exact hcr
          go_wp2_with fail
          go_quiet (first | (go_at_call 32; refine quiet' (po_file _ _ (by omega) (by omega))) | (go_at_call 25; refine quiet' (po_rank _ _ (by omega) (by omega))) | (go_at_call 41; refine quiet' (po_at _ _ _ (by omega) (by omega) (by omega) (by omega))))
          have hbq : Below w1.heap.size w1 (wr.drewN nq) := bstep hbr (drewN_below wr nq) hbr.size
          have hoq : ownInts (wr.drewN nq) w1.heap.size u7 xs := hown
          have hcq : ∀ i : Nat, i < 69 → (wr.drewN nq).cell? ⟨w.heap.size, i, none⟩ = some (.int .i64 (p.getD i 0)) := fun i hi => (hbr.cell (p := ⟨w.heap.size, i, none⟩) (show w.heap.size < w1.heap.size by omega)).trans (hbd i hi)
          clear hcf' hcr' hbr hown
          generalize wr.drewN nq = w2 at *
          rw [show 8 - n = (7 - n) + 1 by omega] at htot
          unfold ray at htot
          generalize atSq (s % 8 + n * df) (s / 8 + n * dr) = to at *
          by_cases hto : to < 0
          · rw [if_pos hto] at htot
            go_wp2_with fail
            go_roundw
            case rel =>
              have R : ∃ (k' : Nat) (xs : List Int), k' ≤ ws.length / 2 ∧ Value.int .i64 ((k : Int) + 1) = .int .i64 (k' : Int) ∧ ownInts w2 w1.heap.size u7 xs ∧ xs ++ rays (pcAt p) far (s % 8) (s / 8) (ws.drop (2 * k')) = total ∧ Below w1.heap.size w1 w2 :=
                ⟨k + 1, xs, by omega, by go_num, hoq, by rw [hrest]; simpa using htot, hbq⟩
              first | exact R | ((repeat apply Exists.intro); exact ⟨R, rfl⟩)
            case measure => simp [intOf]; omega
          · rw [if_neg hto] at htot
            obtain ⟨o, rfl⟩ := Int.eq_ofNat_of_zero_le (show 0 ≤ to by omega)
            have ho64 : o < 64 := by omega
            have hxs : xs.length ≤ 56 := by
              have := congrArg List.length htot
              rw [List.length_append] at this
              omega
            go_wp2_with (at_builtin; refine wpList_append_own _ rfl _ _ 27 rfl w1.heap.size 3 i0 (.int .i64 0) 1 8 Tryd.underlying27 hi hz0 hz1 hz2 rfl (by decide) _ _ _ rfl (hoq.alloc _) ⟨w2.heap.size, 0, none⟩ 1 1 [.int .i64 (o : Int)] rfl rfl ?c1 ?c2 ?c3 ?c4 ?c5 ?_)
            case c2 => rfl
            case c3 => unfold maxLen; omega
            case c4 => omega
            case c5 => have := hbq.size; simp; omega
            · intro v' w3 hown' hgrow _
              have hge := own_ge hoq
              have hb3 : Below w1.heap.size w1 w3 := (hbq.alloc hbq.size _).grown hgrow (by have := hbq.size; simp; omega) hge
              have hc3 : w3.cell? ⟨w.heap.size, o, none⟩ = some (.int .i64 (pcAt p o)) := (hb3.cell (p := ⟨w.heap.size, o, none⟩) (show w.heap.size < w1.heap.size by omega)).trans (hbd o (by omega))
              have hown3 : ownInts w3 w1.heap.size v' (xs ++ [(o : Int)]) := by
                unfold ownInts
                rw [List.length_append, List.map_append]
                exact hown'
              clear hown' hgrow hoq hbq hge hcq
              cases far with
              | false =>
                rw [if_pos (Or.inl rfl)] at htot
                go_wp2_with fail
                go_roundw
                case rel =>
                  have R : ∃ (k' : Nat) (xs : List Int), k' ≤ ws.length / 2 ∧ Value.int .i64 ((k : Int) + 1) = .int .i64 (k' : Int) ∧ ownInts w3 w1.heap.size v' xs ∧ xs ++ rays (pcAt p) false (s % 8) (s / 8) (ws.drop (2 * k')) = total ∧ Below w1.heap.size w1 w3 :=
                    ⟨k + 1, xs ++ [(o : Int)], by omega, by go_num, hown3, by rw [hrest]; simpa using htot, hb3⟩
                  first | exact R | ((repeat apply Exists.intro); exact ⟨R, rfl⟩)
                case measure => simp [intOf]; omega
              | true =>
                by_cases hx : pcAt p o = 0
                · rw [hx] at hc3
                  rw [if_neg (by simp [hx])] at htot
                  go_wp2_with fail
                  go_roundw
                  case rel =>
                    have R : ∃ (n' : Nat) (xs : List Int), 1 ≤ n' ∧ n' ≤ 8 ∧ Value.int .i64 ((n : Int) + 1) = .int .i64 (n' : Int) ∧ ownInts w3 w1.heap.size v' xs ∧ xs ++ (ray (pcAt p) true (s % 8) (s / 8) df dr n' (8 - n') ++ rest) = total ∧ Below w1.heap.size w1 w3 :=
                      ⟨n + 1, xs ++ [(o : Int)], by omega, by omega, by go_num, hown3, by rw [show 8 - (n + 1) = 7 - n by omega]; simpa using htot, hb3⟩
                    have hd : decide ((k : Int) < (ws.length : Int) / 2) = true := decide_eq_true (by omega)
                    first | exact R | ((repeat apply Exists.intro); exact ⟨R, by rw [hd]⟩)
                  case measure => simp [intOf]; omega
                · rw [if_pos (Or.inr hx)] at htot
                  go_wp2_with fail
                  go_roundw
                  case rel =>
                    have R : ∃ (k' : Nat) (xs : List Int), k' ≤ ws.length / 2 ∧ Value.int .i64 ((k : Int) + 1) = .int .i64 (k' : Int) ∧ ownInts w3 w1.heap.size v' xs ∧ xs ++ rays (pcAt p) true (s % 8) (s / 8) (ws.drop (2 * k')) = total ∧ Below w1.heap.size w1 w3 :=
                      ⟨k + 1, xs ++ [(o : Int)], by omega, by go_num, hown3, by rw [hrest]; simpa using htot, hb3⟩
                    first | exact R | ((repeat apply Exists.intro); exact ⟨R, rfl⟩)
                  case measure => simp [intOf]; omega
        · obtain rfl : n = 8 := by omega
          go_wp2_with fail
          go_roundw
          case rel =>
            have R : ∃ (k' : Nat) (xs : List Int), k' ≤ ws.length / 2 ∧ Value.int .i64 ((k : Int) + 1) = .int .i64 (k' : Int) ∧ ownInts wr w1.heap.size u7 xs ∧ xs ++ rays (pcAt p) far (s % 8) (s / 8) (ws.drop (2 * k')) = total ∧ Below w1.heap.size w1 wr :=
              ⟨k + 1, xs, by omega, by go_num, hown, by rw [hrest]; simpa [ray] using htot, hbr⟩
            first | exact R | ((repeat apply Exists.intro); exact ⟨R, rfl⟩)
          case measure => simp [intOf]; omega
    · obtain rfl : k = ws.length / 2 := by omega
      go_wp2_with fail
      go_ret
      have e0 : rays (pcAt p) far (s % 8) (s / 8) (ws.drop (2 * (ws.length / 2))) = [] := by
        have h := rays_le (pcAt p) far (s % 8) (s / 8) (ws.drop (2 * (ws.length / 2)))
        rw [List.length_drop, show (ws.length - 2 * (ws.length / 2)) / 2 = 0 by omega] at h
        exact List.eq_nil_of_length_eq_zero (by omega)
      rw [e0, List.append_nil] at htot
      subst htot
      rw [hT]
      have hle : w.heap.size ≤ w1.heap.size := by omega
      refine ⟨u7, rfl, own_mono hown hle, ?_⟩
      exact bstep (((Below.refl _ _).alloc (Nat.le_refl _) _).trans (hbw.mono (by rw [hza]; omega))) hbr (by omega)
theorem re_reach (p : List Int) (s : Int) (w : World) (hp : p.length = 69) (hb : ∀ x ∈ p, -4294967296 < x ∧ x < 4294967296) (h0 : 0 ≤ s) (h1 : s ≤ 63) :
    Calls Tryd.prog 43 #[.agg (ints p), .int .i64 s] w fun e w' => ∃ v, e = .returned v ∧ ownInts w' w.heap.size v (reach p s) ∧ Below w.heap.size w w' := by
  refine re_reach0 p s w hp ?_ h0 h1
  unfold pcAt
  by_cases h : s.toNat < p.length
  · have := hb (p.getD s.toNat 0) (by simp [h])
    omega
  · simp [List.getD, List.getElem?_eq_none (Nat.le_of_not_lt h)]
end Go.Proofs.YtplkcmlpomjojaaDoor
