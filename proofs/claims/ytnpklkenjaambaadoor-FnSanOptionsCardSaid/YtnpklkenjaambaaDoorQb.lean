/- The parts of a move's text as the reference has them: sanIn, sanTail, sanOne. For every text of at most 200 bytes. -/
import Derived.Test.YtnpklkenjaambaaDoorQa
import Derived.Test.YtnpklkenjaambaaDoorHk
import Derived.LoopTactic
import Derived.Great.Walk
namespace Go.Proofs.YtnpklkenjaambaaDoor
open Go Go.RowKit
set_option maxHeartbeats 4000000
set_option linter.unusedSimpArgs false
set_option linter.unusedVariables false
set_option maxRecDepth 100000

theorem qlay {p : Prop} (h : p) : Shut p := h
theorem u8_eq (x c : UInt8) : ((x.toNat : Int) == (c.toNat : Int)) = (x == c) := by
  by_cases h : x = c
  · subst h; simp
  · have : x.toNat ≠ c.toNat := fun e => h (UInt8.toNat_inj.1 e)
    rw [beq_eq_false_iff_ne.2 h]
    simp
    omega
theorem qb_in (L : List UInt8) (c : UInt8) (hl : L.length ≤ 20) (w : World) :
    Calls Tryd.prog 18 #[.string (bs L), .int .u8 (c.toNat : Int)] w fun e w' => e = .returned (.bool (L.contains c)) ∧ w = w' := by
  have hsz := bs_size L
  have hget : Shut (∀ (k : Nat) (h : k < (bs L).size), (bs L)[k]'h = L.getD k 0) := bs_get L
  go_enter Tryd.func18, Tryd.ntmps18
  go_wp2_with fail
  go_loop [5] (fun i => ∃ k : Nat, k ≤ L.length ∧ i = .int .i64 (k : Int) ∧ (L.take k).contains c = false) (fun i => L.length - (intOf i).toNat)
  case atStart => exact ⟨0, by omega, rfl, by simp⟩
  case round =>
    obtain ⟨k, hk, rfl, hn⟩ := hrel
    by_cases hlt : k < L.length
    · have hx := hget.out k (by rw [hsz]; exact hlt)
      have hst : Shut ((L.take (k + 1)).contains c = ((L.take k).contains c || (c == L.getD k 0))) := by
        show _ = _
        rw [List.take_add_one, List.contains_eq_any_beq, List.contains_eq_any_beq, List.any_append]
        simp [hlt]
      have hmem : Shut (c = L.getD k 0 → L.contains c = true) := by
        intro e
        rw [e]
        simp [hlt]
      generalize L.getD k 0 = x at *
      have hns := qlay hn
      clear hn
      by_cases hc : x = c
      · have ht : ((x.toNat : Int) == (c.toNat : Int)) = true := by rw [u8_eq, hc]; simp
        have hr := qlay (hmem.out hc.symm)
        clear hc
        go_wp2_with fail
        go_ret
        have hm : c ∈ L := by simpa using hr.out
        exact ⟨by simp [hm], rfl⟩
      · have ht : ((x.toNat : Int) == (c.toNat : Int)) = false := by rw [u8_eq]; simpa using hc
        have hst2 : Shut ((L.take (k + 1)).contains c = false) := by show _ = _; rw [hst.out, hns.out]; simpa using fun e : c = x => hc e.symm
        clear hc
        go_wp2_with fail
        go_round
        case rel => exact ⟨k + 1, by omega, by go_num, hst2.out⟩
        case measure => simp [intOf]; omega
    · obtain rfl : k = L.length := by omega
      rw [List.take_length] at hn
      have hns := qlay hn
      clear hn
      go_wp2_with fail
      go_ret
      have hm : ¬ c ∈ L := by simpa using hns.out
      exact ⟨by simp [hm], rfl⟩
theorem qb_tail (R : List UInt8) (hl : R.length ≤ 200) (w : World) :
    Calls Tryd.prog 17 #[.string (bs R)] w fun e w' => e = .returned (.bool (tailB R)) ∧ w = w' := by
  have hsz := bs_size R
  have hget : Shut (∀ (k : Nat) (h : k < (bs R).size), (bs R)[k]'h = R.getD k 0) := bs_get R
  go_enter Tryd.func17, Tryd.ntmps17
  go_wp2_with fail
  go_loop [3] (fun i => ∃ k : Nat, k ≤ R.length ∧ i = .int .i64 (k : Int) ∧ tailB R = tailB (R.drop k)) (fun i => R.length - (intOf i).toNat)
  case atStart => exact ⟨0, by omega, rfl, by simp⟩
  case round =>
    obtain ⟨k, hk, rfl, hn⟩ := hrel
    by_cases hlt : k < R.length
    · have hx := hget.out k (by rw [hsz]; exact hlt)
      have hst := tailB_at R k hlt
      have hin := fun V => qb_in sgnL (R.getD k 0) (by decide) V
      have hep := ep_len R k
      have hex : (bs R).extract k (k + 4) = bs ((R.drop k).take 4) := by rw [bs_extract, List.drop_take]; congr 2; omega
      rw [hst] at hn
      clear hst
      generalize R.getD k 0 = x at *
      have hns := qlay hn
      have hins := qlay hin
      clear hn hin
      cases hs : sgnL.contains x with
      | true =>
        have hns2 : Shut (tailB R = tailB (R.drop (k + 1))) := by show _ = _; rw [hns.out, hs]; rfl
        rw [hs] at hins
        clear hs hep hex hns
        go_wp2_with (go_at_call 18; refine (hins.out _).mono ?_; rintro e1 w1 ⟨rfl, rfl⟩)
        go_round
        case rel => exact ⟨k + 1, by omega, by go_num, hns2.out⟩
        case measure => simp [intOf]; omega
      | false =>
        rw [hs] at hins hns
        by_cases hp : (R.drop k).take 4 = [101, 46, 112, 46]
        · have hl4 := (hep hp).1
          have hns2 : Shut (tailB R = tailB (R.drop (k + 4))) := by show _ = _; rw [hns.out, if_neg (by simp), if_pos hp]
          rw [hp] at hex
          have hq : ((bs [101, 46, 112, 46]).toList == [101, 46, 112, 46]) = true := by rw [bs_list]; rfl
          have h4 : ((k : Int) + 4 ≤ (R.length : Int)) := by omega
          clear hs hep hns hp
          go_wp2_with (go_at_call 18; refine (hins.out _).mono ?_; rintro e1 w1 ⟨rfl, rfl⟩)
          go_round
          case rel => exact ⟨k + 4, by omega, by go_num, hns2.out⟩
          case measure => simp [intOf]; omega
        · have hns2 : Shut (tailB R = false) := by show _ = _; rw [hns.out, if_neg (by simp), if_neg hp]
          have hq : ((bs ((R.drop k).take 4)).toList == [101, 46, 112, 46]) = false := by rw [bs_list]; simpa using hp
          generalize (R.drop k).take 4 = q at *
          clear hs hep hns hp
          by_cases h4 : ((k : Int) + 4 ≤ (R.length : Int))
          · go_wp2_with (go_at_call 18; refine (hins.out _).mono ?_; rintro e1 w1 ⟨rfl, rfl⟩)
            go_ret
            exact ⟨by rw [hns2.out]; rfl, rfl⟩
          · go_wp2_with (go_at_call 18; refine (hins.out _).mono ?_; rintro e1 w1 ⟨rfl, rfl⟩)
            go_ret
            exact ⟨by rw [hns2.out]; rfl, rfl⟩
    · obtain rfl : k = R.length := by omega
      have hns : Shut (tailB R = true) := by show _ = _; rw [hn, tailB_end _ _ (Nat.le_refl _)]
      clear hn
      go_wp2_with fail
      go_ret
      exact ⟨by rw [hns.out]; rfl, rfl⟩
/-- One of these at a place, or nothing. -/
def oneB (L T : List UInt8) (i : Nat) : List UInt8 := if atB L T i then [T.getD i 0] else []
theorem qb_one (T L : List UInt8) (i : Nat) (hl : T.length ≤ 200) (hi : i ≤ 200) (hL : L.length ≤ 20) (w : World) :
    Calls Tryd.prog 37 #[.string (bs T), .int .i64 (i : Int), .string (bs L)] w fun e w' => e = .returned (.string (bs (oneB L T i))) ∧ w = w' := by
  have hsz := bs_size T
  have hget : Shut (∀ (k : Nat) (h : k < (bs T).size), (bs T)[k]'h = T.getD k 0) := bs_get T
  by_cases hlt : i < T.length
  · have hx := hget.out i (by rw [hsz]; exact hlt)
    have hex : (bs T).extract i (i + 1) = bs [T.getD i 0] := by
      rw [bs_extract, List.take_add_one, List.drop_append_of_le_length (by simp; omega)]
      simp [hlt]
    have hins := qlay (fun V => qb_in L (T.getD i 0) hL V)
    have hone : Shut (oneB L T i = if L.contains (T.getD i 0) then [T.getD i 0] else []) := by show _ = _; unfold oneB atB; simp only [hlt, decide_true, Bool.true_and]
    generalize T.getD i 0 = x at *
    have hlz : (i : Int) < (T.length : Int) := by omega
    clear hget
    cases hc : L.contains x with
    | true =>
      rw [hc] at hins hone
      clear hc
      go_enter Tryd.func37, Tryd.ntmps37
      go_wp2_with (go_at_call 18; refine (hins.out _).mono ?_; rintro e1 w1 ⟨rfl, rfl⟩)
      go_ret
      exact ⟨by rw [hone.out]; rfl, rfl⟩
    | false =>
      rw [hc] at hins hone
      clear hc
      go_enter Tryd.func37, Tryd.ntmps37
      go_wp2_with (go_at_call 18; refine (hins.out _).mono ?_; rintro e1 w1 ⟨rfl, rfl⟩)
      go_ret
      exact ⟨by rw [hone.out]; rfl, rfl⟩
  · have hone : Shut (oneB L T i = []) := by show _ = _; unfold oneB atB; simp [hlt]
    have hlz : ¬ (i : Int) < (T.length : Int) := by omega
    clear hget
    go_enter Tryd.func37, Tryd.ntmps37
    go_wp2_with fail
    go_ret
    exact ⟨by rw [hone.out]; rfl, rfl⟩
end Go.Proofs.YtnpklkenjaambaaDoor
