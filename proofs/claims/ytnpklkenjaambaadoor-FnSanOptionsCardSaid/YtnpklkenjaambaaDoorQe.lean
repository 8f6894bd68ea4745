/- The parts of a move's text as the package cuts it: whether a letter is one of some (a closure), and what stands behind the square. For every text of at most 200 bytes. -/
import Derived.Test.YtnpklkenjaambaaDoorQb
namespace Go.Proofs.YtnpklkenjaambaaDoor
open Go Go.RowKit
set_option maxHeartbeats 8000000
set_option linter.unusedSimpArgs false
set_option linter.unusedVariables false
set_option maxRecDepth 100000

/-- 1 if one of these stands at a place, else 0. -/
def isN (L T : List UInt8) (i : Nat) : Nat := if atB L T i then 1 else 0
theorem qe_one (T L : List UInt8) (i g : Nat) (hl : T.length ≤ 200) (hL : L.length ≤ 20) (w : World) (hg : w.cell? ⟨g, 0, none⟩ = some (.string (bs T))) :
    Calls Tryd.prog 63 #[.int .i64 (i : Int), .string (bs L), .pointer (some ⟨g, 0, none⟩)] w fun e w' => e = .returned (.int .i64 (isN L T i)) ∧ ∃ q, w' = w.drewN q := by
  have hszT := bs_size T
  have hszL := bs_size L
  have hgT : Shut (∀ (k : Nat) (h : k < (bs T).size), (bs T)[k]'h = T.getD k 0) := bs_get T
  have hgL : Shut (∀ (k : Nat) (h : k < (bs L).size), (bs L)[k]'h = L.getD k 0) := bs_get L
  by_cases hlt : i < T.length
  · have hx := hgT.out i (by rw [hszT]; exact hlt)
    have hat : Shut (atB L T i = L.contains (T.getD i 0)) := by show _ = _; unfold atB; simp only [hlt, decide_true, Bool.true_and]
    generalize T.getD i 0 = c at *
    have hiz : (i : Int) < (T.length : Int) := by omega
    go_enter Tryd.func63, Tryd.ntmps63
    go_wp2_with fail
    go_loopw [6] (fun k wr => ∃ kk : Nat, kk ≤ L.length ∧ k = .int .i64 (kk : Int) ∧ (L.take kk).contains c = false ∧ ∃ q, wr = w.drewN q) (fun k _ => L.length - (intOf k).toNat)
    case atStart => exact ⟨0, by omega, rfl, by simp, 0, rfl⟩
    case round =>
      obtain ⟨kk, hkk, rfl, hn, q, rfl⟩ := hrel
      have hgq : (w.drewN q).cell? ⟨g, 0, none⟩ = some (.string (bs T)) := by rw [World.cell?_drewN]; exact hg
      by_cases hlk : kk < L.length
      · have hy := hgL.out kk (by rw [hszL]; exact hlk)
        have hst : Shut ((L.take (kk + 1)).contains c = ((L.take kk).contains c || (c == L.getD kk 0))) := by
          show _ = _
          rw [List.take_add_one, List.contains_eq_any_beq, List.contains_eq_any_beq, List.any_append]
          simp [hlk]
        have hmem : Shut (c = L.getD kk 0 → L.contains c = true) := by
          intro e
          rw [e]
          simp [hlk]
        generalize L.getD kk 0 = x at *
        have hns := qlay hn
        clear hn
        by_cases hc : c = x
        · have ht : ((c.toNat : Int) == (x.toNat : Int)) = true := by rw [u8_eq, hc]; simp
          have hr : Shut (isN L T i = 1) := by show _ = _; unfold isN; rw [hat.out, hmem.out hc]; rfl
          clear hc
          go_wp2_with fail
          go_quiet (fail)
          go_wp2
          go_ret
          exact ⟨by rw [hr.out]; rfl, _, by first | rfl | (simp; rfl)⟩
        · have ht : ((c.toNat : Int) == (x.toNat : Int)) = false := by rw [u8_eq]; simpa using hc
          have hst2 : Shut ((L.take (kk + 1)).contains c = false) := by show _ = _; rw [hst.out, hns.out]; simpa using hc
          clear hc
          go_wp2_with fail
          go_quiet (fail)
          go_wp2
          go_roundw
          case rel => exact ⟨kk + 1, by omega, by go_num, hst2.out, _, rfl⟩
          case measure => simp [intOf]; omega
      · obtain rfl : kk = L.length := by omega
        rw [List.take_length] at hn
        have hr : Shut (isN L T i = 0) := by show _ = _; unfold isN; rw [hat.out, hn]; rfl
        clear hn
        go_wp2_with fail
        go_ret
        exact ⟨by rw [hr.out]; rfl, q, rfl⟩
  · have hr : Shut (isN L T i = 0) := by show _ = _; unfold isN atB; simp [hlt]
    have hiz : ¬ (i : Int) < (T.length : Int) := by omega
    clear hgT hgL
    go_enter Tryd.func63, Tryd.ntmps63
    go_wp2_with fail
    go_ret
    exact ⟨by rw [hr.out]; rfl, 0, rfl⟩
theorem qe_tail (T : List UInt8) (i : Nat) (hl : T.length ≤ 200) (hi : i ≤ 200) (w : World) :
    Calls Tryd.prog 64 #[.string (bs T), .int .i64 (i : Int)] w fun e w' => e = .returned (.bool (tailB (T.drop i))) ∧ w = w' := by
  have hsz := bs_size T
  have hget : Shut (∀ (k : Nat) (h : k < (bs T).size), (bs T)[k]'h = T.getD k 0) := bs_get T
  go_enter Tryd.func64, Tryd.ntmps64
  go_wp2_with fail
  go_loop [1] (fun s => ∃ k : Nat, k ≤ 204 ∧ s = .int .i64 (k : Int) ∧ tailB (T.drop i) = tailB (T.drop k)) (fun s => T.length - (intOf s).toNat)
  case atStart => exact ⟨i, by omega, rfl, rfl⟩
  case round =>
    obtain ⟨k, hk, rfl, hn⟩ := hrel
    by_cases hlt : k < T.length
    · have hx := hget.out k (by rw [hsz]; exact hlt)
      have hst := tailB_at T k hlt
      have hep := ep_len T k
      have hex : (bs T).extract k (k + 4) = bs ((T.drop k).take 4) := by rw [bs_extract, List.drop_take]; congr 2; omega
      rw [hst] at hn
      clear hst
      have hsg : ∀ c : UInt8, sgnL.contains c = (c == 43 || c == 35 || c == 33 || c == 63) := by intro c; rw [Bool.eq_iff_iff]; simp [sgnL, or_assoc]
      rw [hsg] at hn
      clear hsg
      generalize T.getD k 0 = x at *
      have hns := qlay hn
      have hkz : (k : Int) < (T.length : Int) := by omega
      clear hn
      have hq0 : ∀ n : Nat, n < 256 → ((x.toNat : Int) == (n : Int)) = (x == UInt8.ofNat n) := by
        intro n hn
        have := u8_eq x (UInt8.ofNat n)
        rw [UInt8.toNat_ofNat_of_lt' (by omega)] at this
        exact this
      have q1 : ((x.toNat : Int) == 43) = (x == 43) := hq0 43 (by omega)
      have q2 : ((x.toNat : Int) == 35) = (x == 35) := hq0 35 (by omega)
      have q3 : ((x.toNat : Int) == 33) = (x == 33) := hq0 33 (by omega)
      have q4 : ((x.toNat : Int) == 63) = (x == 63) := hq0 63 (by omega)
      clear hq0
      cases b1 : (x == 43) with
      | true =>
        rw [b1] at q1
        have hns2 : Shut (tailB (T.drop i) = tailB (T.drop (k + 1))) := by show _ = _; rw [hns.out]; simp only [b1, Bool.or_true, Bool.true_or, Bool.false_or, if_true]
        clear hns hep hex
        go_wp2_with fail
        go_round
        case rel => exact ⟨k + 1, by omega, by go_num, hns2.out⟩
        case measure => simp [intOf]; omega
      | false =>
        rw [b1] at q1
        cases b2 : (x == 35) with
        | true =>
          rw [b2] at q2
          have hns2 : Shut (tailB (T.drop i) = tailB (T.drop (k + 1))) := by show _ = _; rw [hns.out]; simp only [b1, b2, Bool.or_true, Bool.true_or, Bool.false_or, if_true]
          clear hns hep hex
          go_wp2_with fail
          go_round
          case rel => exact ⟨k + 1, by omega, by go_num, hns2.out⟩
          case measure => simp [intOf]; omega
        | false =>
          rw [b2] at q2
          cases b3 : (x == 33) with
          | true =>
            rw [b3] at q3
            have hns2 : Shut (tailB (T.drop i) = tailB (T.drop (k + 1))) := by show _ = _; rw [hns.out]; simp only [b1, b2, b3, Bool.or_true, Bool.true_or, Bool.false_or, if_true]
            clear hns hep hex
            go_wp2_with fail
            go_round
            case rel => exact ⟨k + 1, by omega, by go_num, hns2.out⟩
            case measure => simp [intOf]; omega
          | false =>
            rw [b3] at q3
            cases b4 : (x == 63) with
            | true =>
              rw [b4] at q4
              have hns2 : Shut (tailB (T.drop i) = tailB (T.drop (k + 1))) := by show _ = _; rw [hns.out]; simp only [b1, b2, b3, b4, Bool.or_true, Bool.true_or, Bool.false_or, if_true]
              clear hns hep hex
              go_wp2_with fail
              go_round
              case rel => exact ⟨k + 1, by omega, by go_num, hns2.out⟩
              case measure => simp [intOf]; omega
            | false =>
              rw [b4] at q4
              by_cases hp : (T.drop k).take 4 = [101, 46, 112, 46]
              · have hl4 := (hep hp).1
                have hns2 : Shut (tailB (T.drop i) = tailB (T.drop (k + 4))) := by show _ = _; rw [hns.out, if_neg (by simp [b1, b2, b3, b4]), if_pos hp]
                rw [hp] at hex
                have hq : ((bs [101, 46, 112, 46]).toList == [101, 46, 112, 46]) = true := by rw [bs_list]; rfl
                have h4 : ((k : Int) + 4 ≤ (T.length : Int)) := by omega
                clear hep hns hp
                go_wp2_with fail
                go_round
                case rel => exact ⟨k + 4, by omega, by go_num, hns2.out⟩
                case measure => simp [intOf]; omega
              · have hns2 : Shut (tailB (T.drop i) = false) := by show _ = _; rw [hns.out, if_neg (by simp [b1, b2, b3, b4]), if_neg hp]
                have hq : ((bs ((T.drop k).take 4)).toList == [101, 46, 112, 46]) = false := by rw [bs_list]; simpa using hp
                generalize (T.drop k).take 4 = q at *
                clear hep hns hp
                by_cases h4 : ((k : Int) + 4 ≤ (T.length : Int))
                all_goals (
                  go_wp2_with fail
                  go_ret
                  exact ⟨by rw [hns2.out]; rfl, rfl⟩)
    · have hns : Shut (tailB (T.drop i) = true) := by show _ = _; rw [hn, tailB_end T k (by omega)]
      have hkz : ¬ (k : Int) < (T.length : Int) := by omega
      clear hn hget
      go_wp2_with fail
      go_ret
      exact ⟨by rw [hns.out]; rfl, rfl⟩
end Go.Proofs.YtnpklkenjaambaaDoor
