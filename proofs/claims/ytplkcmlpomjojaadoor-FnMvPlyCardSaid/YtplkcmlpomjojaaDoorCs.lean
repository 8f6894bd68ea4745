/- spec.Castles: the king's moves that castle. For every position of pieces from 0 to 12. (Printed by gen_cs.py.) -/
import Derived.Test.YtplkcmlpomjojaaDoorOd
import Derived.Test.YtplkcmlpomjojaaDoorVa
namespace Go.Proofs.YtplkcmlpomjojaaDoor
open Go Go.RowKit
set_option maxHeartbeats 8000000
set_option linter.unusedSimpArgs false
set_option linter.unusedVariables false
set_option maxRecDepth 100000

/-- The first n squares from i on by 'way' are empty. -/
def runTo (p : List Int) (way i : Int) : Nat → Bool
  | 0 => true
  | n + 1 => runTo p way i n && decide (pcAt p (i + way * (n : Int)) = 0)
def castWay (r : Nat) : Int := if r % 2 = 0 then 1 else -1
def castLen (r : Nat) : Nat := if r % 2 = 0 then 2 else 3
def castOne (p : List Int) (r : Nat) : List Mv :=
  if hasR (rightsB p) r = false ∨ attackedB p (homeK r) (1 - p.getD 64 0) = true then []
  else if (!attackedB p (homeK r + castWay r) (1 - p.getD 64 0) && runTo p (castWay r) (homeK r + castWay r) (castLen r)) = true then [⟨homeK r, homeK r + 2 * castWay r, 0⟩] else []
def castTo (p : List Int) (t : Nat) : Nat → List Mv
  | 0 => []
  | n + 1 => castTo p t n ++ castOne p (2 * t + n)
def castL (p : List Int) : List Mv := castTo p (p.getD 64 0).toNat 2
theorem castOne_le (p : List Int) (r : Nat) : (castOne p r).length ≤ 1 := by
  unfold castOne
  split
  · simp
  · split <;> simp
theorem castTo_le (p : List Int) (t : Nat) : ∀ n, (castTo p t n).length ≤ n
  | 0 => by simp [castTo]
  | n + 1 => by
    have h1 := castTo_le p t n
    have h2 := castOne_le p (2 * t + n)
    rw [castTo, List.length_append]
    omega
theorem cs_castles (p : List Int) (hp : Pos p) (tn : Nat) (hT : p.getD 64 0 = (tn : Int)) (ht : tn ≤ 1) (hc0 : 0 ≤ p.getD 65 0) (hc1 : p.getD 65 0 ≤ 15) (w : World) :
    Calls Tryd.prog 45 #[.agg (ints p)] w fun e w' => ∃ v, e = .returned v ∧ ownMvs w' w.heap.size v (castL p) ∧ Below w.heap.size w w' := by
  obtain ⟨i0, hi, hz0, hz1, hz2⟩ := info_parts mv_info
  have hlp := hp.len
  have hrow : PosAt p w.heap.size (w.alloc (.cells (ints p) 24)) := heap_alloc_new w (.cells (ints p) 24)
  have hBW : Below w.heap.size w (w.alloc (.cells (ints p) 24)) := (Below.refl _ _).alloc (Nat.le_refl _) _
  have h64 := show Shut (∀ W : World, PosAt p w.heap.size W → W.cell? ⟨w.heap.size, 64, none⟩ = some (.int .i64 (tn : Int))) from fun W h => (h.cell 64 (by omega)).trans (by rw [hT])
  have hcl := show Shut (∀ (W : World) (i : Int), PosAt p w.heap.size W → 0 ≤ i → i ≤ 63 → W.cell? ⟨w.heap.size, i.toNat, none⟩ = some (.int .i64 (pcAt p i))) from fun W i h h0 h1 => row_cell h i.toNat (by omega)
  have hL : castL p = castTo p tn 2 := by unfold castL; rw [hT]; rfl
  have hOne := show Shut (∀ r, castOne p r = if hasR (rightsB p) r = false ∨ attackedB p (homeK r) (1 - (tn : Int)) = true then [] else if (!attackedB p (homeK r + castWay r) (1 - (tn : Int)) && runTo p (castWay r) (homeK r + castWay r) (castLen r)) = true then [⟨homeK r, homeK r + 2 * castWay r, 0⟩] else []) from fun r => by unfold castOne; rw [hT]
  have hLs := show Shut _ from hL
  have hRt := show Shut (∀ W : World, Calls Tryd.prog 27 #[.agg (ints p)] W fun e w' => e = .returned (.int .i64 (rightsB p)) ∧ Below W.heap.size W w') from fun W => ri_rights p hp hc0 hc1 W
  have hAt := show Shut (∀ (s c : Int), 0 ≤ s → s ≤ 63 → ∀ W : World, Calls Tryd.prog 7 #[.agg (ints p), .int .i64 s, .int .i64 c] W fun e w' => e = .returned (.bool (attackedB p s c)) ∧ Below W.heap.size W w') from fun s c h0 h1 W => at_attacked p hp s c h0 h1 W
  have hrg := rights_range p 4
  change 0 ≤ rightsB p ∧ rightsB p ≤ 2 ^ 4 - 1 at hrg
  have hpn : (2 : Int) ^ 4 = 16 := by decide
  rw [hpn] at hrg
  have hq0 : 0 ≤ rightsB p := hrg.1
  have hq1 : rightsB p ≤ 15 := by omega
  clear hrg hpn hL hT
  generalize rightsB p = rb at *
  go_enter Tryd.func45, Tryd.ntmps45
  go_upto_region 2 with (fail)
  generalize w.alloc (.cells (ints p) 24) = W at *
  have ct := h64.out W hrow
  have hlt0 := hrow.lt
  go_wp2_with fail
  go_loopw [3, 4] (fun l i wr => ∃ n : Nat, n ≤ 2 ∧ i = .int .i64 ((2 * tn + n : Nat) : Int) ∧ PosAt p w.heap.size wr ∧ ownMvs wr (w.heap.size + 1) l (castTo p tn n) ∧ Below w.heap.size w wr) (fun _ i _ => (2 * tn + 2 - (intOf i).toNat))
  case atStart => exact ⟨0, by omega, by congr 1, hrow, World.ownsRow_nil _ _ _ _, hBW⟩
  case round =>
    clear hrow hBW ct hlt0
    obtain ⟨n, hn, rfl, hrow, hown, hB⟩ := hrel
    have ct := h64.out wr hrow
    by_cases hlt : n < 2
    · have hst := show Shut (castTo p tn (n + 1) = castTo p tn n ++ castOne p (2 * tn + n)) from rfl
      have hle := castTo_le p tn n
      have hr4 : 2 * tn + n < 4 := by omega
      have hpar : (2 * tn + n) % 2 = n := by omega
      have hr2 : ((2 * tn + n : Nat) : Int) < 2 * (tn : Int) + 2 := by omega
      have hnx : ((2 * tn + n : Nat) : Int) + 1 = ((2 * tn + (n + 1) : Nat) : Int) := by omega
      have hnxS := show Shut _ from hnx
      clear hnx
      generalize castTo p tn n = xs at *
      generalize hr : 2 * tn + n = r at *
      have hrS := show Shut _ from hr
      clear hr
      have hone := hOne.out r
      have hhm := ri_home r hr4
      have hk4 : 4 ≤ homeK r ∧ homeK r ≤ 60 := by unfold homeK; omega
      obtain ⟨k4, k60⟩ := hk4
      have hbit : bits .and .i64 (rb / 2 ^ r) 1 = rb / 2 ^ r % 2 := by
        have g0 : 0 ≤ rb / 2 ^ r := Int.ediv_nonneg hq0 (Int.le_of_lt (Int.pow_pos (by decide)))
        have g1 : rb / 2 ^ r ≤ rb := Int.ediv_le_self _ hq0
        exact bits_mask .i64 8 (by decide) (fun n h0 h1 => by rw [IntKind.wrap_i64]; omega) 1 (by decide) _ g0 (by omega)
      have hhR : homeR r = if r % 2 = 0 then homeK r + 3 else homeK r - 4 := by unfold homeR homeK; split <;> omega
      rw [hpar] at hhR
      have hcw : castWay r = if n = 0 then 1 else -1 := by unfold castWay; rw [hpar]
      have hcn : castLen r = if n = 0 then 2 else 3 := by unfold castLen; rw [hpar]
      generalize homeK r = k at *
      generalize homeR r = rr at *
      generalize castWay r = cw at *
      generalize castLen r = cn at *
      have hids := show Shut _ from And.intro hone (And.intro hhm hle)
      clear hone hhm hle
      have hownS := show Shut _ from And.intro hown hB
      clear hown hB
      have hu : wr.heap[w.heap.size]? = some (.cells (ints p) 24 (0, 0)) := hrow
      rcases (show n = 0 ∨ n = 1 by omega) with rfl | rfl
      · rw [if_pos rfl] at hhR hcw hcn
        subst hhR hcw hcn
        by_cases hb : rb / 2 ^ r % 2 = 1
        · rw [hb] at hbit
          have hbs := show Shut (hasR rb r = true) from decide_eq_true hb
          clear hb
          go_wp2_with (first
            | (go_at_call 40; refine (hids.out.2.1 _).mono ?_; rintro e1 w1 ⟨rfl, rfl⟩)
            | ((with_reducible refine at_load_row hu Tryd.underlying24 rfl ?_ ?_ ?_); (rw [ints_size, hlp]; kernel_rfl); rfl)
            | (go_at_call 27; refine (hRt.out _).mono ?_; rintro e2 w2 ⟨rfl, hb2⟩; have hrow2 := hrow.below hb2; have hu2 : w2.heap[w.heap.size]? = some (.cells (ints p) 24 (0, 0)) := hrow2; have ct2 := h64.out w2 hrow2)
            | ((with_reducible refine at_load_rowG hu2 Tryd.underlying24 rfl ?_ ?_ ?_ ?_); (rw [ints_size, hlp]; kernel_rfl); rfl; rfl))
          refine (hAt.out k (1 - (tn : Int)) (by omega) (by omega) _).mono ?_
          rintro e3 w3 ⟨rfl, hb3⟩
          have hrow3 := hrow2.below hb3
          have hu3 : w3.heap[w.heap.size]? = some (.cells (ints p) 24 (0, 0)) := hrow3
          have ct3 := h64.out w3 hrow3
          have hown3 := own_next (own_next hownS.out.1 hb2) hb3
          have hsw := hownS.out.2.size
          have hB3 := (hownS.out.2.trans (hb2.mono hsw)).trans (hb3.mono (Nat.le_trans hsw hb2.size))
          have hS3 := show Shut _ from And.intro hown3 hB3
          clear hown3 hB3 hb2 hb3 ct2 hu2 hrow2 hu ct hrow hbit hsw
          cases hA : attackedB p k (1 - (tn : Int)) with
          | true =>
            have hE : castOne p r = [] := by rw [hids.out.1, if_pos (Or.inr hA)]
            have hEs := show Shut _ from hE
            clear hE hA
            go_wp2_with fail
            go_roundw
            case rel => exact ⟨0 + 1, by omega, by rw [hnxS.out], hrow3, by rw [hst.out, hEs.out, List.append_nil]; exact hS3.out.1, hS3.out.2⟩
            case measure => have := hrS.out; simp [intOf]; omega
          | false =>
            have hAs := show Shut _ from hA
            clear hA
            go_wp2_with (first
              | ((with_reducible refine at_load_row hu3 Tryd.underlying24 rfl ?_ ?_ ?_); (rw [ints_size, hlp]; kernel_rfl); rfl))
            refine (hAt.out (k + 1) (1 - (tn : Int)) (by omega) (by omega) _).mono ?_
            rintro e4 w4 ⟨rfl, hb4⟩
            have hrow4 := hrow3.below hb4
            have ct4 := h64.out w4 hrow4
            have hS4 := show Shut _ from And.intro (own_next hS3.out.1 hb4) (hS3.out.2.trans (hb4.mono hS3.out.2.size))
            have hsw4 : w.heap.size + 1 ≤ w4.heap.size := by have := hrow4.lt; omega
            clear hrow3 hu3 ct3 hb4 hS3
            have hE := hids.out.1
            rw [if_neg (by rw [hbs.out, hAs.out]; simp)] at hE
            have hEs := show Shut _ from hE
            clear hE
            generalize hf0 : attackedB p (k + 1) (1 - (tn : Int)) = f0 at *
            have hf0s := show Shut _ from hf0
            clear hf0
            go_wp2_with fail
            go_loopw [8, 9] (fun fr i wr5 => ∃ (j : Nat) (x : Int), j ≤ 2 ∧ x = k + 1 + (j : Int) ∧ i = .int .i64 x ∧ fr = .bool (!f0 && runTo p (1) (k + 1) j) ∧ wr5 = w4) (fun _ i _ => (k + 3 - intOf i).toNat)
            case atStart => exact ⟨0, k + 1, by omega, by omega, by first | rfl | (congr 1; omega), by simp [runTo], rfl⟩
            case round =>
              obtain ⟨j, x, hj, hxe, rfl, rfl, rfl⟩ := hrel
              have hx1 : x ≤ k + 1 + (j : Int) := by omega
              have hx2 : k + 1 + (j : Int) ≤ x := by omega
              have hxs := show Shut _ from hxe
              clear hxe
              by_cases hjn : j < 2
              · have hcj := hcl.out wr x hrow4 (by omega) (by omega)
                have hrt : runTo p (1) (k + 1) (j + 1) = (runTo p (1) (k + 1) j && decide (pcAt p x = 0)) := by rw [runTo, show k + 1 + 1 * (j : Int) = x by omega]
                have hrts := show Shut _ from hrt
                have hpb0 : (0 : Int) ≤ x := by omega
                have hpb1 : x < 64 := by omega
                have hne : (x == k + 3) = false := by simp; omega
                clear hrt
                cases hfj : (!f0 && runTo p (1) (k + 1) j) with
                | false =>
                  have hfs := show Shut _ from hfj
                  clear hfj
                  go_wp2_with fail
                  go_roundw
                  case rel => exact ⟨j + 1, x + 1, by omega, by omega, by first | rfl | (congr 1; omega), by rw [hrts.out, ← Bool.and_assoc, hfs.out]; rfl, trivial⟩
                  case measure => simp [intOf]; omega
                | true =>
                  have hfs := show Shut _ from hfj
                  clear hfj
                  by_cases hz : pcAt p x = 0
                  · rw [hz] at hcj
                    have hzs := show Shut _ from hz
                    clear hz
                    go_wp2_with fail
                    go_roundw
                    case rel => exact ⟨j + 1, x + 1, by omega, by omega, by first | rfl | (congr 1; omega), by rw [hrts.out, ← Bool.and_assoc, hfs.out, decide_eq_true hzs.out]; rfl, trivial⟩
                    case measure => simp [intOf]; omega
                  · have hzb : (pcAt p x == 0) = false := by simpa using hz
                    have hzs := show Shut _ from hz
                    clear hz
                    generalize hpz : pcAt p x = z at *
                    go_wp2_with fail
                    go_roundw
                    case rel => exact ⟨j + 1, x + 1, by omega, by omega, by first | rfl | (congr 1; omega), by rw [hrts.out, ← Bool.and_assoc, hfs.out, decide_eq_false hzs.out]; rfl, trivial⟩
                    case measure => simp [intOf]; omega
              · obtain rfl : j = 2 := by omega
                have heq : (x == k + 3) = true := by simp; omega
                cases hfj : (!f0 && runTo p (1) (k + 1) 2) with
                | false =>
                  have hE : castOne p r = [] := by rw [hEs.out, hfj]; rfl
                  have hFs := show Shut _ from hE
                  clear hfj hE
                  go_wp2_with fail
                  go_roundw
                  case rel =>
                    have R : ∃ n' : Nat, n' ≤ 2 ∧ Value.int .i64 ((r : Int) + 1) = .int .i64 ((2 * tn + n' : Nat) : Int) ∧ PosAt p w.heap.size wr ∧ ownMvs wr (w.heap.size + 1) u3 (castTo p tn n') ∧ Below w.heap.size w wr := ⟨0 + 1, by omega, by rw [hnxS.out], hrow4, by rw [hst.out, hFs.out, List.append_nil]; exact hS4.out.1, hS4.out.2⟩
                    first | exact R | ((repeat apply Exists.intro); exact ⟨R, rfl⟩)
                  case measure => have := hrS.out; simp [intOf]; omega
                | true =>
                  have hE : castOne p r = [⟨k, k + 2 * (1), 0⟩] := by rw [hEs.out, hfj]; rfl
                  have hFs := show Shut _ from hE
                  have hown4 := hS4.out.1
                  have hlx := hids.out.2.2
                  clear hfj hE
                  go_wp2_with (with_reducible refine at_appendk (esz := 3) [.int .i64 k, .int .i64 (k + 2), .int .i64 0] rfl Tryd.underlying36 hi hz0 hz1 hz2 rfl (by decide) (by decide) ?_ (w.heap.size + 1) _ _ _ hown4 ?_ hsw4 ?_ ?_ ?_)
                  · intro u hu; simp at hu; rcases hu with rfl | rfl | rfl <;> rfl
                  · omega
                  · rfl
                  · rfl
                  intro v' w' hown' hbel' hkeep' hap' hsz'
                  have R : ∃ n' : Nat, n' ≤ 2 ∧ Value.int .i64 ((r : Int) + 1) = .int .i64 ((2 * tn + n' : Nat) : Int) ∧ PosAt p w.heap.size w' ∧ ownMvs w' (w.heap.size + 1) v' (castTo p tn n') ∧ Below w.heap.size w w' := by
                    refine ⟨0 + 1, by omega, by rw [hnxS.out], (hbel'.block w.heap.size (by omega)).trans hrow4, ?_, hS4.out.2.trans (hbel'.mono (by omega))⟩
                    rw [hst.out, hFs.out]
                    unfold ownMvs mvsC
                    rw [List.length_append, List.flatMap_append]
                    exact hown'
                  have RS := show Shut _ from R
                  clear R hown' hbel' hkeep' hap' hown4
                  go_wp2_with fail
                  go_roundw
                  case rel =>
                    have R := RS.out
                    first | exact R | ((repeat apply Exists.intro); exact ⟨R, rfl⟩)
                  case measure => have := hrS.out; simp [intOf]; omega
        · have hb0 : rb / 2 ^ r % 2 = 0 := by omega
          rw [hb0] at hbit
          have hE : castOne p r = [] := by rw [hids.out.1, if_pos (Or.inl (show hasR rb r = false from decide_eq_false hb))]
          have hEs := show Shut _ from hE
          clear hb hb0 hE
          go_wp2_with (first
            | (go_at_call 40; refine (hids.out.2.1 _).mono ?_; rintro e1 w1 ⟨rfl, rfl⟩)
            | ((with_reducible refine at_load_row hu Tryd.underlying24 rfl ?_ ?_ ?_); (rw [ints_size, hlp]; kernel_rfl); rfl)
            | (go_at_call 27; refine (hRt.out _).mono ?_; rintro e2 w2 ⟨rfl, hb2⟩))
          have hrow2 := hrow.below hb2
          have hS2 := show Shut _ from And.intro (own_next hownS.out.1 hb2) (hownS.out.2.trans (hb2.mono hownS.out.2.size))
          clear hb2
          go_roundw
          case rel => exact ⟨0 + 1, by omega, by rw [hnxS.out], hrow2, by rw [hst.out, hEs.out, List.append_nil]; exact hS2.out.1, hS2.out.2⟩
          case measure => have := hrS.out; simp [intOf]; omega
      · rw [if_neg (by decide)] at hhR hcw hcn
        subst hhR hcw hcn
        by_cases hb : rb / 2 ^ r % 2 = 1
        · rw [hb] at hbit
          have hbs := show Shut (hasR rb r = true) from decide_eq_true hb
          clear hb
          go_wp2_with (first
            | (go_at_call 40; refine (hids.out.2.1 _).mono ?_; rintro e1 w1 ⟨rfl, rfl⟩)
            | ((with_reducible refine at_load_row hu Tryd.underlying24 rfl ?_ ?_ ?_); (rw [ints_size, hlp]; kernel_rfl); rfl)
            | (go_at_call 27; refine (hRt.out _).mono ?_; rintro e2 w2 ⟨rfl, hb2⟩; have hrow2 := hrow.below hb2; have hu2 : w2.heap[w.heap.size]? = some (.cells (ints p) 24 (0, 0)) := hrow2; have ct2 := h64.out w2 hrow2)
            | ((with_reducible refine at_load_rowG hu2 Tryd.underlying24 rfl ?_ ?_ ?_ ?_); (rw [ints_size, hlp]; kernel_rfl); rfl; rfl))
          refine (hAt.out k (1 - (tn : Int)) (by omega) (by omega) _).mono ?_
          rintro e3 w3 ⟨rfl, hb3⟩
          have hrow3 := hrow2.below hb3
          have hu3 : w3.heap[w.heap.size]? = some (.cells (ints p) 24 (0, 0)) := hrow3
          have ct3 := h64.out w3 hrow3
          have hown3 := own_next (own_next hownS.out.1 hb2) hb3
          have hsw := hownS.out.2.size
          have hB3 := (hownS.out.2.trans (hb2.mono hsw)).trans (hb3.mono (Nat.le_trans hsw hb2.size))
          have hS3 := show Shut _ from And.intro hown3 hB3
          clear hown3 hB3 hb2 hb3 ct2 hu2 hrow2 hu ct hrow hbit hsw
          cases hA : attackedB p k (1 - (tn : Int)) with
          | true =>
            have hE : castOne p r = [] := by rw [hids.out.1, if_pos (Or.inr hA)]
            have hEs := show Shut _ from hE
            clear hE hA
            go_wp2_with fail
            go_roundw
            case rel => exact ⟨1 + 1, by omega, by rw [hnxS.out], hrow3, by rw [hst.out, hEs.out, List.append_nil]; exact hS3.out.1, hS3.out.2⟩
            case measure => have := hrS.out; simp [intOf]; omega
          | false =>
            have hAs := show Shut _ from hA
            clear hA
            go_wp2_with (first
              | ((with_reducible refine at_load_row hu3 Tryd.underlying24 rfl ?_ ?_ ?_); (rw [ints_size, hlp]; kernel_rfl); rfl))
            refine (hAt.out (k + -1) (1 - (tn : Int)) (by omega) (by omega) _).mono ?_
            rintro e4 w4 ⟨rfl, hb4⟩
            have hrow4 := hrow3.below hb4
            have ct4 := h64.out w4 hrow4
            have hS4 := show Shut _ from And.intro (own_next hS3.out.1 hb4) (hS3.out.2.trans (hb4.mono hS3.out.2.size))
            have hsw4 : w.heap.size + 1 ≤ w4.heap.size := by have := hrow4.lt; omega
            clear hrow3 hu3 ct3 hb4 hS3
            have hE := hids.out.1
            rw [if_neg (by rw [hbs.out, hAs.out]; simp)] at hE
            have hEs := show Shut _ from hE
            clear hE
            generalize hf0 : attackedB p (k + -1) (1 - (tn : Int)) = f0 at *
            have hf0s := show Shut _ from hf0
            clear hf0
            go_wp2_with fail
            go_loopw [8, 9] (fun fr i wr5 => ∃ (j : Nat) (x : Int), j ≤ 3 ∧ x = k - 1 - (j : Int) ∧ i = .int .i64 x ∧ fr = .bool (!f0 && runTo p (-1) (k + -1) j) ∧ wr5 = w4) (fun _ i _ => (intOf i - (k - 4)).toNat)
            case atStart => exact ⟨0, k + -1, by omega, by omega, by first | rfl | (congr 1; omega), by simp [runTo], rfl⟩
            case round =>
              obtain ⟨j, x, hj, hxe, rfl, rfl, rfl⟩ := hrel
              have hx1 : x ≤ k - 1 - (j : Int) := by omega
              have hx2 : k - 1 - (j : Int) ≤ x := by omega
              have hxs := show Shut _ from hxe
              clear hxe
              by_cases hjn : j < 3
              · have hcj := hcl.out wr x hrow4 (by omega) (by omega)
                have hrt : runTo p (-1) (k + -1) (j + 1) = (runTo p (-1) (k + -1) j && decide (pcAt p x = 0)) := by rw [runTo, show k + -1 + -1 * (j : Int) = x by omega]
                have hrts := show Shut _ from hrt
                have hpb0 : (0 : Int) ≤ x := by omega
                have hpb1 : x < 64 := by omega
                have hne : (x == k - 4) = false := by simp; omega
                clear hrt
                cases hfj : (!f0 && runTo p (-1) (k + -1) j) with
                | false =>
                  have hfs := show Shut _ from hfj
                  clear hfj
                  go_wp2_with fail
                  go_roundw
                  case rel => exact ⟨j + 1, x + -1, by omega, by omega, by first | rfl | (congr 1; omega), by rw [hrts.out, ← Bool.and_assoc, hfs.out]; rfl, trivial⟩
                  case measure => simp [intOf]; omega
                | true =>
                  have hfs := show Shut _ from hfj
                  clear hfj
                  by_cases hz : pcAt p x = 0
                  · rw [hz] at hcj
                    have hzs := show Shut _ from hz
                    clear hz
                    go_wp2_with fail
                    go_roundw
                    case rel => exact ⟨j + 1, x + -1, by omega, by omega, by first | rfl | (congr 1; omega), by rw [hrts.out, ← Bool.and_assoc, hfs.out, decide_eq_true hzs.out]; rfl, trivial⟩
                    case measure => simp [intOf]; omega
                  · have hzb : (pcAt p x == 0) = false := by simpa using hz
                    have hzs := show Shut _ from hz
                    clear hz
                    generalize hpz : pcAt p x = z at *
                    go_wp2_with fail
                    go_roundw
                    case rel => exact ⟨j + 1, x + -1, by omega, by omega, by first | rfl | (congr 1; omega), by rw [hrts.out, ← Bool.and_assoc, hfs.out, decide_eq_false hzs.out]; rfl, trivial⟩
                    case measure => simp [intOf]; omega
              · obtain rfl : j = 3 := by omega
                have heq : (x == k - 4) = true := by simp; omega
                cases hfj : (!f0 && runTo p (-1) (k + -1) 3) with
                | false =>
                  have hE : castOne p r = [] := by rw [hEs.out, hfj]; rfl
                  have hFs := show Shut _ from hE
                  clear hfj hE
                  go_wp2_with fail
                  go_roundw
                  case rel =>
                    have R : ∃ n' : Nat, n' ≤ 2 ∧ Value.int .i64 ((r : Int) + 1) = .int .i64 ((2 * tn + n' : Nat) : Int) ∧ PosAt p w.heap.size wr ∧ ownMvs wr (w.heap.size + 1) u3 (castTo p tn n') ∧ Below w.heap.size w wr := ⟨1 + 1, by omega, by rw [hnxS.out], hrow4, by rw [hst.out, hFs.out, List.append_nil]; exact hS4.out.1, hS4.out.2⟩
                    first | exact R | ((repeat apply Exists.intro); exact ⟨R, rfl⟩)
                  case measure => have := hrS.out; simp [intOf]; omega
                | true =>
                  have hE : castOne p r = [⟨k, k + 2 * (-1), 0⟩] := by rw [hEs.out, hfj]; rfl
                  have hFs := show Shut _ from hE
                  have hown4 := hS4.out.1
                  have hlx := hids.out.2.2
                  clear hfj hE
                  go_wp2_with (with_reducible refine at_appendk (esz := 3) [.int .i64 k, .int .i64 (k + -2), .int .i64 0] rfl Tryd.underlying36 hi hz0 hz1 hz2 rfl (by decide) (by decide) ?_ (w.heap.size + 1) _ _ _ hown4 ?_ hsw4 ?_ ?_ ?_)
                  · intro u hu; simp at hu; rcases hu with rfl | rfl | rfl <;> rfl
                  · omega
                  · rfl
                  · rfl
                  intro v' w' hown' hbel' hkeep' hap' hsz'
                  have R : ∃ n' : Nat, n' ≤ 2 ∧ Value.int .i64 ((r : Int) + 1) = .int .i64 ((2 * tn + n' : Nat) : Int) ∧ PosAt p w.heap.size w' ∧ ownMvs w' (w.heap.size + 1) v' (castTo p tn n') ∧ Below w.heap.size w w' := by
                    refine ⟨1 + 1, by omega, by rw [hnxS.out], (hbel'.block w.heap.size (by omega)).trans hrow4, ?_, hS4.out.2.trans (hbel'.mono (by omega))⟩
                    rw [hst.out, hFs.out]
                    unfold ownMvs mvsC
                    rw [List.length_append, List.flatMap_append]
                    exact hown'
                  have RS := show Shut _ from R
                  clear R hown' hbel' hkeep' hap' hown4
                  go_wp2_with fail
                  go_roundw
                  case rel =>
                    have R := RS.out
                    first | exact R | ((repeat apply Exists.intro); exact ⟨R, rfl⟩)
                  case measure => have := hrS.out; simp [intOf]; omega
        · have hb0 : rb / 2 ^ r % 2 = 0 := by omega
          rw [hb0] at hbit
          have hE : castOne p r = [] := by rw [hids.out.1, if_pos (Or.inl (show hasR rb r = false from decide_eq_false hb))]
          have hEs := show Shut _ from hE
          clear hb hb0 hE
          go_wp2_with (first
            | (go_at_call 40; refine (hids.out.2.1 _).mono ?_; rintro e1 w1 ⟨rfl, rfl⟩)
            | ((with_reducible refine at_load_row hu Tryd.underlying24 rfl ?_ ?_ ?_); (rw [ints_size, hlp]; kernel_rfl); rfl)
            | (go_at_call 27; refine (hRt.out _).mono ?_; rintro e2 w2 ⟨rfl, hb2⟩))
          have hrow2 := hrow.below hb2
          have hS2 := show Shut _ from And.intro (own_next hownS.out.1 hb2) (hownS.out.2.trans (hb2.mono hownS.out.2.size))
          clear hb2
          go_roundw
          case rel => exact ⟨1 + 1, by omega, by rw [hnxS.out], hrow2, by rw [hst.out, hEs.out, List.append_nil]; exact hS2.out.1, hS2.out.2⟩
          case measure => have := hrS.out; simp [intOf]; omega
    · obtain rfl : n = 2 := by omega
      have hge : ¬ ((2 * tn + 2 : Nat) : Int) < 2 * (tn : Int) + 2 := by omega
      have hS := show Shut _ from And.intro hown hB
      clear hown hB
      go_wp2_with fail
      go_ret
      exact ⟨_, rfl, by rw [hLs.out]; exact own_mono hS.out.1 (by omega), hS.out.2⟩
end Go.Proofs.YtplkcmlpomjojaaDoor
