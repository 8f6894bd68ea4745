/- spec.home, spec.Rights: the rights to castle whose king and rook stand at home. For every position of pieces from 0 to 12. -/
import Derived.Test.YtplkcmlpomjojaaDoorAt
namespace Go.Proofs.YtplkcmlpomjojaaDoor
open Go Go.RowKit
set_option maxHeartbeats 4000000
set_option linter.unusedSimpArgs false
set_option linter.unusedVariables false
set_option maxRecDepth 100000

def homeK (r : Nat) : Int := 56 * ((r : Int) / 2) + 4
def homeR (r : Nat) : Int := if r % 2 = 0 then 56 * ((r : Int) / 2) + 7 else 56 * ((r : Int) / 2)
theorem ri_home (r : Nat) (hr : r < 4) (w : World) :
    Calls Tryd.prog 40 #[.int .i64 (r : Int)] w fun e w' => e = .returned (.tuple #[.int .i64 (homeK r), .int .i64 (homeR r)]) ∧ w = w' := by
  have h4 : r = 0 ∨ r = 1 ∨ r = 2 ∨ r = 3 := by omega
  rcases h4 with rfl | rfl | rfl | rfl
  all_goals
    go_enter Tryd.func40, Tryd.ntmps40
    go_wp2_with (first
      | (go_at_call 41; refine (po_at _ _ _ (by decide) (by decide) (by decide) (by decide)).mono ?_; rintro e1 w1 ⟨rfl, rfl⟩))
    go_ret2
    exact ⟨rfl, rfl⟩
/-- Whether the right r is there in a number of rights. -/
def hasR (c : Int) (r : Nat) : Bool := decide (c / 2 ^ r % 2 = 1)
def rightB (p : List Int) (r : Nat) : Bool := hasR (p.getD 65 0) r && (decide (pcAt p (homeK r) = 1 + 6 * ((r : Int) / 2)) && decide (pcAt p (homeR r) = 3 + 6 * ((r : Int) / 2)))
def rightsTo (p : List Int) : Nat → Int
  | 0 => 0
  | n + 1 => rightsTo p n + (if rightB p n then 2 ^ n else 0)
def rightsB (p : List Int) : Int := rightsTo p 4
theorem ri_of (k s : Int) (w : World) (n : Nat) (h0 : 0 ≤ k) (h1 : k ≤ 6) (h2 : 0 ≤ s) (h3 : s ≤ 1) :
    Calls Tryd.prog 39 #[.int .i64 k, .int .i64 s] (w.drewN n) fun e w'' => e = .returned (.int .i64 (k + 6 * s)) ∧ ∃ m, w'' = w.drewN m := br_of k s w n h0 h1 h2 h3
theorem rights_range (p : List Int) : ∀ n, 0 ≤ rightsTo p n ∧ rightsTo p n ≤ 2 ^ n - 1
  | 0 => by simp [rightsTo]
  | n + 1 => by
    have h := rights_range p n
    have e : (2 : Int) ^ (n + 1) = 2 * 2 ^ n := by rw [Int.pow_succ]; omega
    rw [rightsTo, e]
    generalize (2 : Int) ^ n = y at *
    split <;> omega
theorem ri_rights (p : List Int) (hp : Pos p) (hc0 : 0 ≤ p.getD 65 0) (hc1 : p.getD 65 0 ≤ 15) (w : World) :
    Calls Tryd.prog 27 #[.agg (ints p)] w fun e w' => e = .returned (.int .i64 (rightsB p)) ∧ Below w.heap.size w w' := by
  go_enter Tryd.func27, Tryd.ntmps27
  go_wp2_with fail
  have hrow := heap_alloc_new w (.cells (ints p) 24)
  have hBW : Below w.heap.size w (w.alloc (.cells (ints p) 24)) := (Below.refl _ _).alloc (Nat.le_refl _) _
  generalize w.alloc (.cells (ints p) 24) = W at *
  go_loopw [3, 4] (fun o i wr => ∃ k : Nat, k ≤ 4 ∧ i = .int .i64 (k : Int) ∧ o = .int .i64 (rightsTo p k) ∧ wr.heap[w.heap.size]? = some (.cells (ints p) 24 (0, 0)) ∧ Below w.heap.size w wr) (fun _ i _ => (4 - intOf i).toNat)
  case atStart => exact ⟨0, by omega, rfl, rfl, hrow, hBW⟩
  case round =>
    clear hrow hBW
    obtain ⟨k, hk, rfl, rfl, hr, hB⟩ := hrel
    by_cases hlt : k < 4
    · have hrg := rights_range p k
      have hst : rightsTo p (k + 1) = rightsTo p k + (if rightB p k then 2 ^ k else 0) := rfl
      have hrb : rightB p k = (hasR (p.getD 65 0) k && (decide (pcAt p (homeK k) = 1 + 6 * ((k : Int) / 2)) && decide (pcAt p (homeR k) = 3 + 6 * ((k : Int) / 2)))) := rfl
      have hk0 : 0 ≤ homeK k ∧ homeK k ≤ 63 := by unfold homeK; omega
      have hr0 : 0 ≤ homeR k ∧ homeR k ≤ 63 := by unfold homeR; split <;> omega
      have ck : wr.cell? ⟨w.heap.size, (homeK k).toNat, none⟩ = some (.int .i64 (pcAt p (homeK k))) := row_cell hr _ (by rw [hp.len]; omega)
      have cr : wr.cell? ⟨w.heap.size, (homeR k).toNat, none⟩ = some (.int .i64 (pcAt p (homeR k))) := row_cell hr _ (by rw [hp.len]; omega)
      have cc : wr.cell? ⟨w.heap.size, 65, none⟩ = some (.int .i64 (p.getD 65 0)) := row_cell hr 65 (by rw [hp.len]; omega)
      have hbit : bits .and .i64 (p.getD 65 0 / 2 ^ k) 1 = p.getD 65 0 / 2 ^ k % 2 := by
        have h0 : 0 ≤ p.getD 65 0 / 2 ^ k := Int.ediv_nonneg hc0 (Int.le_of_lt (Int.pow_pos (by decide)))
        have h1 : p.getD 65 0 / 2 ^ k ≤ p.getD 65 0 := Int.ediv_le_self _ hc0
        exact bits_mask .i64 8 (by decide) (fun n h0 h1 => by rw [IntKind.wrap_i64]; omega) 1 (by decide) _ h0 (by omega)
      have hpw : (2 : Int) ^ k ≤ 8 ∧ 1 ≤ (2 : Int) ^ k := by
        have h4 : k = 0 ∨ k = 1 ∨ k = 2 ∨ k = 3 := by omega
        rcases h4 with rfl | rfl | rfl | rfl <;> decide
      obtain ⟨ck0, ck1⟩ := hk0
      obtain ⟨cr0, cr1⟩ := hr0
      have htd : Int.tdiv (k : Int) 2 = (k : Int) / 2 := by rw [Int.tdiv_eq_ediv_of_nonneg (by omega)]
      have hhm := ri_home k hlt
      generalize homeK k = hk at *
      generalize homeR k = hr' at *
      have hids := show Shut _ from And.intro hst (And.intro hrb (And.intro hr (And.intro hB hhm)))
      clear hst hrb hr hB hhm
      by_cases hb : p.getD 65 0 / 2 ^ k % 2 = 1
      · rw [hb] at hbit
        have hbs := show Shut (hasR (p.getD 65 0) k = true) from decide_eq_true hb
        clear hb
        generalize p.getD 65 0 = cs at *
        by_cases h1 : pcAt p hk = 1 + 6 * ((k : Int) / 2)
        · rw [h1] at ck
          have h1s := show Shut _ from h1
          clear h1
          by_cases h2 : pcAt p hr' = 3 + 6 * ((k : Int) / 2)
          · rw [h2] at cr
            have hR : rightB p k = true := by rw [hids.out.2.1, hbs.out, decide_eq_true h1s.out, decide_eq_true h2]; rfl
            have hRs := show Shut _ from hR
            clear h2 hR
            go_wp2_with (first | (go_at_call 40; refine (hids.out.2.2.2.2 _).mono ?_; rintro e1 w1 ⟨rfl, rfl⟩))
            go_quiet (first | (go_at_call 39; refine ri_of _ _ _ _ (by omega) (by omega) (by omega) (by omega)))
            go_wp2
            go_roundw
            case rel => exact ⟨k + 1, by omega, by go_num, by rw [hids.out.1, hRs.out, if_pos rfl], hids.out.2.2.1, hids.out.2.2.2.1.trans ((drewN_below wr _).mono hids.out.2.2.2.1.size)⟩
            case measure => simp [intOf]; omega
          · have h3 : (pcAt p hr' == 3 + 6 * ((k : Int) / 2)) = false := by simpa using h2
            have hR : rightB p k = false := by rw [hids.out.2.1, decide_eq_false h2]; simp
            have hRs := show Shut _ from hR
            clear h2 hR
            generalize pcAt p hr' = z at *
            go_wp2_with (first | (go_at_call 40; refine (hids.out.2.2.2.2 _).mono ?_; rintro e1 w1 ⟨rfl, rfl⟩))
            go_quiet (first | (go_at_call 39; refine ri_of _ _ _ _ (by omega) (by omega) (by omega) (by omega)))
            go_wp2
            go_roundw
            case rel => exact ⟨k + 1, by omega, by go_num, by rw [hids.out.1, hRs.out, if_neg (by decide), Int.add_zero], hids.out.2.2.1, hids.out.2.2.2.1.trans ((drewN_below wr _).mono hids.out.2.2.2.1.size)⟩
            case measure => simp [intOf]; omega
        · have h3 : (pcAt p hk == 1 + 6 * ((k : Int) / 2)) = false := by simpa using h1
          have hR : rightB p k = false := by rw [hids.out.2.1, decide_eq_false h1]; simp
          have hRs := show Shut _ from hR
          clear h1 hR
          generalize pcAt p hk = z at *
          go_wp2_with (first | (go_at_call 40; refine (hids.out.2.2.2.2 _).mono ?_; rintro e1 w1 ⟨rfl, rfl⟩))
          go_quiet (first | (go_at_call 39; refine ri_of _ _ _ _ (by omega) (by omega) (by omega) (by omega)))
          go_wp2
          go_roundw
          case rel => exact ⟨k + 1, by omega, by go_num, by rw [hids.out.1, hRs.out, if_neg (by decide), Int.add_zero], hids.out.2.2.1, hids.out.2.2.2.1.trans ((drewN_below wr _).mono hids.out.2.2.2.1.size)⟩
          case measure => simp [intOf]; omega
      · have hb0 : p.getD 65 0 / 2 ^ k % 2 = 0 := by omega
        rw [hb0] at hbit
        have hR : rightB p k = false := by rw [hids.out.2.1, show hasR (p.getD 65 0) k = false from decide_eq_false hb]; simp
        have hRs := show Shut _ from hR
        clear hb hb0 hR
        generalize p.getD 65 0 = cs at *
        go_wp2_with (first | (go_at_call 40; refine (hids.out.2.2.2.2 _).mono ?_; rintro e1 w1 ⟨rfl, rfl⟩))
        go_quiet (first | (go_at_call 39; refine ri_of _ _ _ _ (by omega) (by omega) (by omega) (by omega)))
        go_wp2
        go_roundw
        case rel => exact ⟨k + 1, by omega, by go_num, by rw [hids.out.1, hRs.out, if_neg (by decide), Int.add_zero], hids.out.2.2.1, hids.out.2.2.2.1.trans ((drewN_below wr _).mono hids.out.2.2.2.1.size)⟩
        case measure => simp [intOf]; omega
    · obtain rfl : k = 4 := by omega
      have hR : rightsB p = rightsTo p 4 := rfl
      have hRs := show Shut _ from hR
      clear hR
      generalize rightsTo p 4 = y at *
      go_wp2_with fail
      go_ret
      exact ⟨by rw [hRs.out]; rfl, hB⟩
end Go.Proofs.YtplkcmlpomjojaaDoor
