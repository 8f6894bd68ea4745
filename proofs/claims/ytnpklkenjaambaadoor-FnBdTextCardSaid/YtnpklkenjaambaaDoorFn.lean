/- The reference's text of a board. For every board of pieces from 0 to 12. -/
import Derived.Test.YtnpklkenjaambaaDoorFp
import Derived.Test.YtnpklkenjaambaaDoorFb
import Derived.Test.YtnpklkenjaambaaDoorCk
import Derived.LoopTactic
namespace Go.Proofs.YtnpklkenjaambaaDoor
open Go Go.RowKit
set_option maxHeartbeats 8000000
set_option linter.unusedSimpArgs false
set_option linter.unusedVariables false
set_option maxRecDepth 100000

theorem fn_lay {p : Prop} (h : p) : Shut p := h
theorem bs_add (a b : List UInt8) : bs a ++ bs b = bs (a ++ b) := by
  apply ByteArray.ext
  simp [bs]
theorem fn_dec (e : Nat) (h0 : 0 < e) (h8 : e ≤ 8) (w : World) :
    Calls Tryd.prog 28 #[.int .i64 (e : Int)] w fun r w' => r = .returned (.string (bs [dgB e])) ∧ w = w' := by
  have he : e = 1 ∨ e = 2 ∨ e = 3 ∨ e = 4 ∨ e = 5 ∨ e = 6 ∨ e = 7 ∨ e = 8 := by omega
  rcases he with rfl | rfl | rfl | rfl | rfl | rfl | rfl | rfl
  all_goals (
    go_enter Tryd.func28, Tryd.ntmps28
    go_wp2
    go_ret
    exact ⟨by kernel_rfl, rfl⟩)
theorem let_cut (q : Nat) (h : q < 12) : (⟨#[75, 81, 82, 66, 78, 80, 107, 113, 114, 98, 110, 112]⟩ : ByteArray).extract q (q + 1) = bs [chB ((q : Int) + 1)] := by
  rcases twelve h with rfl | rfl | rfl | rfl | rfl | rfl | rfl | rfl | rfl | rfl | rfl | rfl <;> kernel_rfl
/-- What stands there behind k ranks: with the stroke ahead of the next one. -/
def spL (p : List Int) (k : Nat) : List UInt8 := if k < 8 then txHead (txRank p k) k else txRank p k
theorem spL_size (p : List Int) (k : Nat) : (spL p k).length ≤ 9 * k + 1 := by
  have := txRank_size p k
  unfold spL txHead
  split <;> (try split) <;> simp <;> omega
theorem fn_board (p : List Int) (hl : p.length = 64) (hp : ∀ i, i < 64 → 0 ≤ p.getD i 0 ∧ p.getD i 0 ≤ 12) (w : World) :
    Calls Tryd.prog 12 #[.agg (ints p)] w fun e w' => e = .returned (.string (bs (txBoard p))) ∧ Below w.heap.size w w' := by
  have hps := fn_lay hp
  clear hp
  go_enter Tryd.func12, Tryd.ntmps12
  go_wp2_with fail
  have hrow := fn_lay (row_cell (heap_alloc_new w (.cells (ints p) 30)))
  have hbel := fn_lay ((Below.refl w.heap.size w).alloc (Nat.le_refl _) (.cells (ints p) 30))
  generalize w.alloc (.cells (ints p) 30) = W at *
  go_loop [3, 4, 5, 6, 7] (fun o r _ _ _ => ∃ k q : Nat, k + q = 8 ∧ r = .int .i64 ((q : Int) - 1) ∧ o = .string (bs (spL p k))) (fun _ r _ _ _ => (intOf r + 1).toNat)
  case atStart => exact ⟨0, 8, by omega, rfl, rfl⟩
  case round =>
    obtain ⟨k, q, hkq, rfl, rfl⟩ := hrel
    by_cases h0 : q = 0
    · subst h0
      obtain rfl : k = 8 := by omega
      have hr0 : decide (((0 : Nat) : Int) - 1 ≥ 0) = false := rfl
      go_wp2_with fail
      go_ret
      exact ⟨rfl, hbel.out⟩
    · obtain ⟨r, rfl⟩ : ∃ r, q = r + 1 := ⟨q - 1, by omega⟩
      rw [show (((r + 1 : Nat) : Int) - 1) = (r : Int) by omega]
      have hH : spL p k = txHead (txRank p k) k := by unfold spL; rw [if_pos (by omega)]
      have hR1 := fn_lay (txRank_rk p k)
      have hHs := fn_lay hH
      rw [hH]
      have hsz := spL_size p k
      rw [hH] at hsz
      clear hH
      generalize hHD : txHead (txRank p k) k = HD at *
      go_wp2_with fail
      have hba := bs_add
      go_loop [3, 5, 6, 7] (fun o e f _ => ∃ n : Nat, n ≤ 8 ∧ f = .int .i64 (n : Int) ∧ o = .string (bs (txRow p r (HD, 0) n).1) ∧ e = .int .i64 (((txRow p r (HD, 0) n).2 : Nat) : Int)) (fun _ _ f _ => (8 - intOf f).toNat)
      case atStart => exact ⟨0, by omega, rfl, rfl, rfl⟩
      case round =>
        obtain ⟨n, hn, rfl, rfl, rfl⟩ := hrel
        have hwt := txRow_wait p r HD n
        have hsz2 := txRow_size p r HD n
        by_cases hlt : n < 8
        · have hstep := fn_lay (show txRow p r (HD, 0) (n + 1) = txStep (txRow p r (HD, 0) n) (p.getD (8 * r + n) 0) from rfl)
          obtain ⟨x0, x1⟩ := hps.out (8 * r + n) (by omega)
          have hcl := hrow.out (8 * r + n) (by rw [hl]; omega)
          generalize p.getD (8 * r + n) 0 = x at *
          generalize txRow p r (HD, 0) n = st at *
          obtain ⟨bl, ec⟩ := st
          simp only at hwt hsz2 hstep ⊢
          by_cases hx : x = 0
          · subst hx
            have hst2 : Shut (txRow p r (HD, 0) (n + 1) = (bl, ec + 1)) := by show _ = _; rw [hstep.out, txStep, if_pos rfl]
            clear hstep x0 x1
            go_wp2_with fail
            go_round
            case rel => exact ⟨n + 1, by omega, by go_num, by rw [hst2.out], by rw [hst2.out]; go_num⟩
            case measure => simp [intOf]; omega
          · obtain ⟨q, hq, rfl⟩ : ∃ q : Nat, q < 12 ∧ x = (q : Int) + 1 := ⟨(x - 1).toNat, by omega, by omega⟩
            have hst2 : Shut (txRow p r (HD, 0) (n + 1) = (putN bl ec ++ [chB ((q : Int) + 1)], 0)) := by show _ = _; rw [hstep.out, txStep, if_neg hx]
            have hcut := let_cut q hq
            clear hstep hx
            generalize chB ((q : Int) + 1) = c at *
            have hbl : bl.length ≤ 200 := by split at hsz2 <;> omega
            have hbz := bs_size bl
            have hz1 : (bs [c]).size = 1 := rfl
            by_cases he : ec = 0
            · subst he
              have hput : putN bl 0 = bl := rfl
              rw [hput] at hst2
              clear hput hsz2 hwt
              go_wp2_with fail
              all_goals first
                | (exfalso; omega)
                | skip
              go_round
              case rel => exact ⟨n + 1, by omega, by go_num, by rw [hst2.out], by rw [hst2.out]; rfl⟩
              case measure => simp [intOf]; omega
            · have he0 : 0 < ec := by omega
              have hput : putN bl ec = bl ++ [dgB ec] := by unfold putN; rw [if_pos he0]
              rw [hput] at hst2
              have hbz2 := bs_size (bl ++ [dgB ec])
              rw [List.length_append, List.length_singleton] at hbz2
              have hd1 : (bs [dgB ec]).size = 1 := rfl
              have hdc := fn_lay (fn_dec ec he0 (by omega))
              clear hput hsz2 hwt he
              go_wp2_with (go_at_call 28; refine (hdc.out _).mono ?_; rintro e1 w1 ⟨rfl, rfl⟩)
              all_goals first
                | (exfalso; omega)
                | skip
              go_round
              case rel => exact ⟨n + 1, by omega, by go_num, by rw [hst2.out]; simp, by rw [hst2.out]; rfl⟩
              case measure => simp [intOf]; omega
        · obtain rfl : n = 8 := by omega
          have hrk : Shut (txRank p (k + 1) = putN (txRow p r (HD, 0) 8).1 (txRow p r (HD, 0) 8).2) := by show _ = _; rw [← hHD, show r = 7 - k by omega]; rfl
          generalize txRow p r (HD, 0) 8 = st at *
          obtain ⟨bl, ec⟩ := st
          simp only at hwt hsz2 hrk ⊢
          have hbl : bl.length ≤ 200 := by split at hsz2 <;> omega
          have hbz := bs_size bl
          have hz1 : (bs [47]).size = 1 := rfl
          have hlit : (⟨#[47]⟩ : ByteArray) = bs [47] := rfl
          have hsp : Shut (spL p (k + 1) = if 0 < r then txRank p (k + 1) ++ [47] else txRank p (k + 1)) := by
            show _ = _
            unfold spL txHead
            by_cases h : 0 < r
            · rw [if_pos h, if_pos (by omega), if_pos (by omega)]
            · rw [if_neg h, if_neg (by omega)]
          have hdc0 := fn_lay (fun (h0 : 0 < ec) => fn_dec ec h0 (by omega))
          clear hHs hR1 hHD hsz2 hlt hn hsz hwt hba
          have hba := bs_add
          by_cases he0 : 0 < ec
          · by_cases hr0 : 0 < r
            · have hput : putN bl ec = bl ++ [dgB ec] := by unfold putN; rw [if_pos he0]
              rw [hput] at hrk
              have hfin : Shut (spL p (k + 1) = (bl ++ [dgB ec]) ++ [47]) := by show _ = _; rw [hsp.out, if_pos hr0, hrk.out]
              have hdc := fn_lay (hdc0.out he0)
              have hbz2 := bs_size (bl ++ [dgB ec])
              rw [List.length_append, List.length_singleton] at hbz2
              have hd1 : (bs [dgB ec]).size = 1 := rfl
              clear hput hrk hsp hdc0
              go_wp2_with (go_at_call 28; refine (hdc.out _).mono ?_; rintro e1 w1 ⟨rfl, rfl⟩)
              all_goals first
                | (exfalso; omega)
                | skip
              try rw [hlit, hba]
              go_round
              case rel =>
                have R : ∃ k' q' : Nat, k' + q' = 8 ∧ Value.int .i64 (((r : Nat) : Int) - 1) = .int .i64 ((q' : Int) - 1) ∧ Value.string (bs ((bl ++ [dgB ec]) ++ [47])) = .string (bs (spL p k')) := ⟨k + 1, r, by omega, rfl, by rw [hfin.out]⟩
                try simp only [List.append_assoc] at R ⊢
                first | exact R | ((repeat apply Exists.intro); exact ⟨R, rfl⟩)
              case measure => first | (simp [intOf]; done) | (simp [intOf]; omega)
            · have hput : putN bl ec = bl ++ [dgB ec] := by unfold putN; rw [if_pos he0]
              rw [hput] at hrk
              have hfin : Shut (spL p (k + 1) = bl ++ [dgB ec]) := by show _ = _; rw [hsp.out, if_neg hr0, hrk.out]
              have hdc := fn_lay (hdc0.out he0)
              have hbz2 := bs_size (bl ++ [dgB ec])
              rw [List.length_append, List.length_singleton] at hbz2
              have hd1 : (bs [dgB ec]).size = 1 := rfl
              obtain rfl : r = 0 := by omega
              clear hput hrk hsp hdc0
              go_wp2_with (go_at_call 28; refine (hdc.out _).mono ?_; rintro e1 w1 ⟨rfl, rfl⟩)
              all_goals first
                | (exfalso; omega)
                | skip
              go_round
              case rel =>
                have R : ∃ k' q' : Nat, k' + q' = 8 ∧ Value.int .i64 (((0 : Nat) : Int) - 1) = .int .i64 ((q' : Int) - 1) ∧ Value.string (bs (bl ++ [dgB ec])) = .string (bs (spL p k')) := ⟨k + 1, 0, by omega, rfl, by rw [hfin.out]⟩
                try simp only [List.append_assoc] at R ⊢
                first | exact R | ((repeat apply Exists.intro); exact ⟨R, rfl⟩)
              case measure => first | (simp [intOf]; done) | (simp [intOf]; omega)
          · by_cases hr0 : 0 < r
            · have hput : putN bl ec = bl := by unfold putN; rw [if_neg he0]
              rw [hput] at hrk
              have hfin : Shut (spL p (k + 1) = (bl) ++ [47]) := by show _ = _; rw [hsp.out, if_pos hr0, hrk.out]
              obtain rfl : ec = 0 := by omega
              clear hput hrk hsp hdc0
              go_wp2_with fail
              all_goals first
                | (exfalso; omega)
                | skip
              try rw [hlit, hba]
              go_round
              case rel =>
                have R : ∃ k' q' : Nat, k' + q' = 8 ∧ Value.int .i64 (((r : Nat) : Int) - 1) = .int .i64 ((q' : Int) - 1) ∧ Value.string (bs ((bl) ++ [47])) = .string (bs (spL p k')) := ⟨k + 1, r, by omega, rfl, by rw [hfin.out]⟩
                try simp only [List.append_assoc] at R ⊢
                first | exact R | ((repeat apply Exists.intro); exact ⟨R, rfl⟩)
              case measure => first | (simp [intOf]; done) | (simp [intOf]; omega)
            · have hput : putN bl ec = bl := by unfold putN; rw [if_neg he0]
              rw [hput] at hrk
              have hfin : Shut (spL p (k + 1) = bl) := by show _ = _; rw [hsp.out, if_neg hr0, hrk.out]
              obtain rfl : ec = 0 := by omega
              obtain rfl : r = 0 := by omega
              clear hput hrk hsp hdc0
              go_wp2_with fail
              all_goals first
                | (exfalso; omega)
                | skip
              go_round
              case rel =>
                have R : ∃ k' q' : Nat, k' + q' = 8 ∧ Value.int .i64 (((0 : Nat) : Int) - 1) = .int .i64 ((q' : Int) - 1) ∧ Value.string (bs (bl)) = .string (bs (spL p k')) := ⟨k + 1, 0, by omega, rfl, by rw [hfin.out]⟩
                try simp only [List.append_assoc] at R ⊢
                first | exact R | ((repeat apply Exists.intro); exact ⟨R, rfl⟩)
              case measure => first | (simp [intOf]; done) | (simp [intOf]; omega)
end Go.Proofs.YtnpklkenjaambaaDoor
