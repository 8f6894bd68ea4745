/- The engine's test: whether one of several squares is attacked. -/
import Derived.Test.YtplkcmlpomjojaaDoorDa
import Derived.Test.YtplkcmlpomjojaaDoorPa
import Derived.Deep.QuietTactic
import Derived.BigQuiet
namespace Go.Proofs.YtplkcmlpomjojaaDoor
open Go Go.RowKit
set_option maxHeartbeats 8000000
set_option linter.unusedSimpArgs false
set_option linter.unusedVariables false
set_option maxRecDepth 100000

theorem Tabs.drewN {w : World} (h : Tabs w) (n : Nat) : Tabs (w.drewN n) := h.below (B := w.heap.size) ⟨rfl, rfl, rfl, Nat.le_refl _, fun _ _ => rfl⟩ (Nat.le_refl _)
/-- What the engine reads of a position in block pg: its board (block bg), its turn; its tables. -/
structure EngAt (p : List Int) (tn pg bg : Nat) (w : World) : Prop where
  c0 : w.cell? ⟨pg, 0, none⟩ = some (.pointer (some ⟨bg, 0, none⟩))
  c5 : w.cell? ⟨pg, 5, none⟩ = some (.int .i8 ((tn : Int) + 1))
  bd : w.heap[bg]? = some (.cells (brd p) 75 (0, 0))
  tb : Tabs w
  al : IntSl w 6 .i8 allL
/-- All taken squares, those of the other side, what the other side's piece of kind t+1 stands on. -/
def empB (p : List Int) : BitVec 64 := ~~~(whiteB p ||| blackB p)
def takB (p : List Int) : BitVec 64 := ~~~(empB p)
def othB (p : List Int) (tn : Nat) : BitVec 64 := if tn = 1 then whiteB p else blackB p
def kinB (p : List Int) (tn t : Nat) : BitVec 64 := bbF p (t + 6 * (1 - tn))
def hotB (p : List Int) (tn s : Nat) : BitVec 64 := (diaB (takB p) s ||| hvB (takB p) s) &&& othB p tn ||| tabB bbKnightMovesL s &&& othB p tn
def pawB (p : List Int) (tn s : Nat) : BitVec 64 := if tn = 0 then ((bbF p 11 &&& 18374403900871474942#64 &&& 72057594037927935#64) <<< 7 ||| (bbF p 11 &&& 9187201950435737471#64 &&& 72057594037927935#64) <<< 9) &&& sqBit s
  else ((bbF p 5 &&& 18374403900871474942#64 &&& 18446744073709551360#64) >>> 9 ||| (bbF p 5 &&& 9187201950435737471#64 &&& 18446744073709551360#64) >>> 7) &&& sqBit s
def engB (p : List Int) (tn s : Nat) : Bool :=
  if hotB p tn s = 0#64 then false
  else if (diaB (takB p) s ||| hvB (takB p) s) &&& kinB p tn 1 ≠ 0#64 then true
  else if hvB (takB p) s &&& kinB p tn 2 ≠ 0#64 then true
  else if diaB (takB p) s &&& kinB p tn 3 ≠ 0#64 then true
  else if tabB bbKnightMovesL s &&& kinB p tn 4 ≠ 0#64 then true
  else if pawB p tn s ≠ 0#64 then true
  else decide (tabB bbKingMovesL s &&& kinB p tn 0 ≠ 0#64)

theorem EngAt.turn {p : List Int} {tn pg bg : Nat} {w : World} (h : EngAt p tn pg bg w) (n : Nat) : (w.drewN n).cell? ⟨pg, 5, none⟩ = some (.int .i8 ((tn : Int) + 1)) := by
  rw [World.cell?_drewN]; exact h.c5
theorem brd_white (p : List Int) : (brd p)[12]? = some (bbv (whiteB p)) := rfl
theorem brd_black (p : List Int) : (brd p)[13]? = some (bbv (blackB p)) := rfl
theorem brd_emp (p : List Int) : (brd p)[14]? = some (bbv (empB p)) := rfl
theorem brd_11 (p : List Int) : (brd p)[11]? = some (bbv (bbF p 11)) := rfl
theorem brd_5 (p : List Int) : (brd p)[5]? = some (bbv (bbF p 5)) := rfl
theorem sa_turn {p : List Int} {tn pg bg : Nat} {w : World} (h : EngAt p tn pg bg w) (n : Nat) : Calls Tryd.prog 48 #[.pointer (some ⟨pg, 0, none⟩)] (w.drewN n) fun e w' => e = .returned (.int .i8 ((tn : Int) + 1)) ∧ w.drewN n = w' := da_turn pg _ _ (h.turn n)
theorem sa_dia {p : List Int} {tn pg bg : Nat} {w : World} (h : EngAt p tn pg bg w) (n s : Nat) (hs : s < 64) : Calls Tryd.prog 50 #[bbv (~~~(empB p)), .int .i8 (s : Int)] (w.drewN n) fun e w' => e = .returned (bbv (diaB (~~~(empB p)) s)) ∧ w.drewN n = w' := da_dia _ s _ hs (h.tb.drewN n)
theorem sa_hv {p : List Int} {tn pg bg : Nat} {w : World} (h : EngAt p tn pg bg w) (n s : Nat) (hs : s < 64) : Calls Tryd.prog 51 #[bbv (~~~(empB p)), .int .i8 (s : Int)] (w.drewN n) fun e w' => e = .returned (bbv (hvB (~~~(empB p)) s)) ∧ w.drewN n = w' := da_hv _ s _ hs (h.tb.drewN n)
theorem sa_np {p : List Int} {tn pg bg : Nat} {w : World} (h : EngAt p tn pg bg w) (n t c : Nat) (ht : t < 6) (hc : c < 2) (a b r : Int) (ha : a = (t : Int) + 1) (hb : b = (c : Int) + 1) (hr : r = (t : Int) + 6 * c + 1) :
    Calls Tryd.prog 53 #[.int .i8 a, .int .i8 b] (w.drewN n) fun e w' => e = .returned (.int .i8 r) ∧ w.drewN n = w' := by
  subst ha; subst hb; subst hr
  exact da_piece t c ht hc _ ⟨h.al.ex, h.al.lt⟩
theorem sa_get {p : List Int} {tn pg bg : Nat} {w : World} (h : EngAt p tn pg bg w) (n k : Nat) (hk : k < 12) (a : Int) (ha : a = (k : Int) + 1) :
    Calls Tryd.prog 52 #[.pointer (some ⟨bg, 0, none⟩), .int .i8 a] (w.drewN n) fun e w' => e = .returned (bbv (bbF p k)) ∧ w.drewN n = w' := by
  subst ha
  exact bo_get _ _ _ _ _ _ bg k _ h.bd hk
theorem engB_eq0 (p : List Int) (s : Nat) : engB p 0 s =
    if ((diaB (~~~empB p) s ||| hvB (~~~empB p) s) &&& blackB p ||| tabB bbKnightMovesL s &&& blackB p) = 0#64 then false
    else if ((diaB (~~~empB p) s ||| hvB (~~~empB p) s) &&& bbF p 7) ≠ 0#64 then true
    else if (hvB (~~~empB p) s &&& bbF p 8) ≠ 0#64 then true
    else if (diaB (~~~empB p) s &&& bbF p 9) ≠ 0#64 then true
    else if (tabB bbKnightMovesL s &&& bbF p 10) ≠ 0#64 then true
    else if (((bbF p 11 &&& 18374403900871474942#64 &&& 72057594037927935#64) <<< 7 ||| (bbF p 11 &&& 9187201950435737471#64 &&& 72057594037927935#64) <<< 9) &&& sqBit s) ≠ 0#64 then true
    else decide ((tabB bbKingMovesL s &&& bbF p 6) ≠ 0#64) := rfl
theorem engB_eq1 (p : List Int) (s : Nat) : engB p 1 s =
    if ((diaB (~~~empB p) s ||| hvB (~~~empB p) s) &&& whiteB p ||| tabB bbKnightMovesL s &&& whiteB p) = 0#64 then false
    else if ((diaB (~~~empB p) s ||| hvB (~~~empB p) s) &&& bbF p 1) ≠ 0#64 then true
    else if (hvB (~~~empB p) s &&& bbF p 2) ≠ 0#64 then true
    else if (diaB (~~~empB p) s &&& bbF p 3) ≠ 0#64 then true
    else if (tabB bbKnightMovesL s &&& bbF p 4) ≠ 0#64 then true
    else if (((bbF p 5 &&& 18374403900871474942#64 &&& 18446744073709551360#64) >>> 9 ||| (bbF p 5 &&& 9187201950435737471#64 &&& 18446744073709551360#64) >>> 7) &&& sqBit s) ≠ 0#64 then true
    else decide ((tabB bbKingMovesL s &&& bbF p 0) ≠ 0#64) := rfl
theorem no_more {f : Nat → Bool} {l : List Nat} {k s : Nat} (h : ∀ j, j < k → f (l.getD j 0) = false) (e : l.getD k 0 = s) (hs : f s = false) : ∀ j, j < k + 1 → f (l.getD j 0) = false := fun j hj => by
  by_cases q : j = k
  · subst q; rw [e]; exact hs
  · exact h j (by omega)
theorem yes_any {f : Nat → Bool} {l : List Nat} {k s : Nat} (e : l.getD k 0 = s) (hk : k < l.length) (hs : f s = true) : l.any f = true := by
  refine List.any_eq_true.2 ⟨s, ?_, hs⟩
  rw [← e]
  simp [hk]
theorem no_any {f : Nat → Bool} {l : List Nat} (h : ∀ j, j < l.length → f (l.getD j 0) = false) : l.any f = false := by
  rw [List.any_eq_false]
  intro x hx
  obtain ⟨j, hj, rfl⟩ := List.getElem_of_mem hx
  have := h j hj
  simp [hj] at this
  simp [this]
theorem lay {p : Prop} (h : p) : Shut p := h
theorem sa_attacked (p : List Int) (tn : Nat) (htn : tn ≤ 1) (pg bg : Nat) (w : World) (hE : EngAt p tn pg bg w) (l : List Nat) (hl : ∀ s ∈ l, s < 64) (hll : l.length ≤ 64) (sg : Nat) (cap : Nat)
    (hs : ∀ i, i < l.length → w.cell? ⟨sg, i, none⟩ = some (.int .i8 ((l.getD i 0 : Nat) : Int))) :
    Calls Tryd.prog 35 #[.pointer (some ⟨pg, 0, none⟩), .slice (some ⟨sg, 0, none⟩) l.length cap] w fun e w' => e = .returned (.bool (l.any (engB p tn))) ∧ ∃ m, w' = w.drewN m := by
  have hT0 := lay (da_turn pg _ w hE.c5)
  have hTu := lay (fun n => sa_turn hE n)
  have hDi := lay (fun n s hs => sa_dia hE n s hs)
  have hHv := lay (fun n s hs => sa_hv hE n s hs)
  have c14 := (cell_of_row w bg 14 _ _ _ hE.bd).trans (brd_emp p)
  have c12 := (cell_of_row w bg 12 _ _ _ hE.bd).trans (brd_white p)
  have c13 := (cell_of_row w bg 13 _ _ _ hE.bd).trans (brd_black p)
  have c11 := (cell_of_row w bg 11 _ _ _ hE.bd).trans (brd_11 p)
  have c5 := (cell_of_row w bg 5 _ _ _ hE.bd).trans (brd_5 p)
  have hp0 := hE.c0
  have hEs := show Shut _ from hE
  have htd : (1 : Int) ≤ (tn : Int) + 1 ∧ (tn : Int) + 1 ≤ 2 := by omega
  clear hE
  have hsS := show Shut _ from hs
  have hlS := show Shut _ from hl
  clear hs hl htd
  go_enter Tryd.func35, Tryd.ntmps35
  go_wp2_with (first
    | (go_at_call 48; refine hT0.out.mono ?_; rintro e1 w1 ⟨rfl, rfl⟩)
    | (go_at_call 49; refine (da_other (tn : Int) _ (by omega) (by omega)).mono ?_; rintro e1 w1 ⟨rfl, rfl⟩))
  go_loopw [33] (fun i wr => ∃ k n : Nat, k ≤ l.length ∧ i = .int .i64 (k : Int) ∧ wr = w.drewN n ∧ ∀ j, j < k → engB p tn (l.getD j 0) = false) (fun i _ => (l.length - intOf i).toNat)
  case atStart => exact ⟨0, 0, by omega, rfl, rfl, fun j hj => by omega⟩
  case round =>
    obtain ⟨k, n, hk, rfl, rfl, hall⟩ := hrel
    have hals := lay hall
    clear hall
    by_cases hlt : k < l.length
    · have hck := hsS.out k hlt
      have hs64 : l.getD k 0 < 64 := hlS.out _ (by simp [hlt])
      have hkn := ((hEs.out.tb.kn.cell (l.getD k 0) hs64).trans (by rw [tab_get _ bbKnightMoves_lt _ hs64]))
      have hki := ((hEs.out.tb.ki.cell (l.getD k 0) hs64).trans (by rw [tab_get _ bbKingMoves_lt _ hs64]))
      generalize hsd : l.getD k 0 = s at *
      have hid := lay hsd
      clear hsd
      rcases (show tn = 0 ∨ tn = 1 by omega) with rfl | rfl
      all_goals go_wp2_with (first
        | (go_at_call 48; refine Calls.mono (hTu.out n) ?_; rintro e1 w1 ⟨rfl, rfl⟩))
      · have hEng := lay (engB_eq0 p s)
        have hNq := lay (fun n => sa_np hEs.out n 1 1 (by decide) (by decide) 2 2 8 rfl rfl rfl)
        have hGq := lay (fun n => sa_get hEs.out n 7 (by decide) 8 rfl)
        have hNr := lay (fun n => sa_np hEs.out n 2 1 (by decide) (by decide) 3 2 9 rfl rfl rfl)
        have hGr := lay (fun n => sa_get hEs.out n 8 (by decide) 9 rfl)
        have hNb := lay (fun n => sa_np hEs.out n 3 1 (by decide) (by decide) 4 2 10 rfl rfl rfl)
        have hGb := lay (fun n => sa_get hEs.out n 9 (by decide) 10 rfl)
        have hNn := lay (fun n => sa_np hEs.out n 4 1 (by decide) (by decide) 5 2 11 rfl rfl rfl)
        have hGn := lay (fun n => sa_get hEs.out n 10 (by decide) 11 rfl)
        have hNk := lay (fun n => sa_np hEs.out n 0 1 (by decide) (by decide) 1 2 7 rfl rfl rfl)
        have hGk := lay (fun n => sa_get hEs.out n 6 (by decide) 7 rfl)
        by_cases g0 : ((diaB (~~~empB p) s ||| hvB (~~~empB p) s) &&& blackB p ||| tabB bbKnightMovesL s &&& blackB p) = 0#64
        · have g0b : ((diaB (~~~empB p) s ||| hvB (~~~empB p) s) &&& blackB p ||| tabB bbKnightMovesL s &&& blackB p == 0#64) = true := by rw [g0]; rfl
          have g0s := lay g0
          clear g0
          go_quiet (first
            | (go_at_call 50; (with_reducible exact quiet_add_left (hDi.out _ s hs64)))
            | (go_at_call 51; (with_reducible exact quiet_add_left (hHv.out _ s hs64))))
          go_wp2_with fail
          go_roundw
          case rel =>
            first
            | exact ⟨k + 1, _, by omega, by go_num, rfl, no_more hals.out hid.out (by rw [hEng.out, if_pos g0s.out])⟩
            | ((repeat apply Exists.intro); exact ⟨⟨k + 1, _, by omega, by go_num, rfl, no_more hals.out hid.out (by rw [hEng.out, if_pos g0s.out])⟩, rfl⟩)
          case measure => simp [intOf]; omega
        · have g0b : ((diaB (~~~empB p) s ||| hvB (~~~empB p) s) &&& blackB p ||| tabB bbKnightMovesL s &&& blackB p == 0#64) = false := by simpa using g0
          have g0s := lay g0
          clear g0
          go_quiet (first
            | (go_at_call 50; (with_reducible exact quiet_add_left (hDi.out _ s hs64)))
            | (go_at_call 51; (with_reducible exact quiet_add_left (hHv.out _ s hs64))))
          go_wp2_with fail
          clear g0b
          by_cases gq : ((diaB (~~~empB p) s ||| hvB (~~~empB p) s) &&& bbF p 7) ≠ 0#64
          · have gqb : ((diaB (~~~empB p) s ||| hvB (~~~empB p) s) &&& bbF p 7 != 0#64) = true := by simpa using gq
            have gqs := lay gq
            clear gq
            go_quiet (first
              | (go_at_call 53; (with_reducible exact quiet_add_left (hNq.out _)))
              | (go_at_call 52; (with_reducible exact quiet_add_left (hGq.out _))))
            go_wp2_with (first | (go_at_call 50; refine Calls.mono (hDi.out _ s hs64) ?_; rintro e1 w1 ⟨rfl, rfl⟩) | (go_at_call 51; refine Calls.mono (hHv.out _ s hs64) ?_; rintro e1 w1 ⟨rfl, rfl⟩) | (go_at_call 48; refine Calls.mono (hTu.out _) ?_; rintro e1 w1 ⟨rfl, rfl⟩) | (go_at_call 54; refine (sq_bit _ _ (by omega) (by omega)).mono ?_; rintro e1 w1 ⟨rfl, rfl⟩))
            go_ret
            exact ⟨by rw [yes_any hid.out hlt (by rw [hEng.out, if_neg g0s.out, if_pos gqs.out])]; rfl, _, rfl⟩
          · have gqb : ((diaB (~~~empB p) s ||| hvB (~~~empB p) s) &&& bbF p 7 != 0#64) = false := by simpa using gq
            have gqs := lay gq
            clear gq
            go_quiet (first
              | (go_at_call 53; (with_reducible exact quiet_add_left (hNq.out _)))
              | (go_at_call 52; (with_reducible exact quiet_add_left (hGq.out _))))
            go_wp2_with (first | (go_at_call 50; refine Calls.mono (hDi.out _ s hs64) ?_; rintro e1 w1 ⟨rfl, rfl⟩) | (go_at_call 51; refine Calls.mono (hHv.out _ s hs64) ?_; rintro e1 w1 ⟨rfl, rfl⟩) | (go_at_call 48; refine Calls.mono (hTu.out _) ?_; rintro e1 w1 ⟨rfl, rfl⟩) | (go_at_call 54; refine (sq_bit _ _ (by omega) (by omega)).mono ?_; rintro e1 w1 ⟨rfl, rfl⟩))
            clear gqb
            by_cases gr : (hvB (~~~empB p) s &&& bbF p 8) ≠ 0#64
            · have grb : (hvB (~~~empB p) s &&& bbF p 8 != 0#64) = true := by simpa using gr
              have grs := lay gr
              clear gr
              go_quiet (first
                | (go_at_call 53; (with_reducible exact quiet_add_left (hNr.out _)))
                | (go_at_call 52; (with_reducible exact quiet_add_left (hGr.out _))))
              go_wp2_with (first | (go_at_call 50; refine Calls.mono (hDi.out _ s hs64) ?_; rintro e1 w1 ⟨rfl, rfl⟩) | (go_at_call 51; refine Calls.mono (hHv.out _ s hs64) ?_; rintro e1 w1 ⟨rfl, rfl⟩) | (go_at_call 48; refine Calls.mono (hTu.out _) ?_; rintro e1 w1 ⟨rfl, rfl⟩) | (go_at_call 54; refine (sq_bit _ _ (by omega) (by omega)).mono ?_; rintro e1 w1 ⟨rfl, rfl⟩))
              go_ret
              exact ⟨by rw [yes_any hid.out hlt (by rw [hEng.out, if_neg g0s.out, if_neg gqs.out, if_pos grs.out])]; rfl, _, rfl⟩
            · have grb : (hvB (~~~empB p) s &&& bbF p 8 != 0#64) = false := by simpa using gr
              have grs := lay gr
              clear gr
              go_quiet (first
                | (go_at_call 53; (with_reducible exact quiet_add_left (hNr.out _)))
                | (go_at_call 52; (with_reducible exact quiet_add_left (hGr.out _))))
              go_wp2_with (first | (go_at_call 50; refine Calls.mono (hDi.out _ s hs64) ?_; rintro e1 w1 ⟨rfl, rfl⟩) | (go_at_call 51; refine Calls.mono (hHv.out _ s hs64) ?_; rintro e1 w1 ⟨rfl, rfl⟩) | (go_at_call 48; refine Calls.mono (hTu.out _) ?_; rintro e1 w1 ⟨rfl, rfl⟩) | (go_at_call 54; refine (sq_bit _ _ (by omega) (by omega)).mono ?_; rintro e1 w1 ⟨rfl, rfl⟩))
              clear grb
              by_cases gb : (diaB (~~~empB p) s &&& bbF p 9) ≠ 0#64
              · have gbb : (diaB (~~~empB p) s &&& bbF p 9 != 0#64) = true := by simpa using gb
                have gbs := lay gb
                clear gb
                go_quiet (first
                  | (go_at_call 53; (with_reducible exact quiet_add_left (hNb.out _)))
                  | (go_at_call 52; (with_reducible exact quiet_add_left (hGb.out _))))
                go_wp2_with (first | (go_at_call 50; refine Calls.mono (hDi.out _ s hs64) ?_; rintro e1 w1 ⟨rfl, rfl⟩) | (go_at_call 51; refine Calls.mono (hHv.out _ s hs64) ?_; rintro e1 w1 ⟨rfl, rfl⟩) | (go_at_call 48; refine Calls.mono (hTu.out _) ?_; rintro e1 w1 ⟨rfl, rfl⟩) | (go_at_call 54; refine (sq_bit _ _ (by omega) (by omega)).mono ?_; rintro e1 w1 ⟨rfl, rfl⟩))
                go_ret
                exact ⟨by rw [yes_any hid.out hlt (by rw [hEng.out, if_neg g0s.out, if_neg gqs.out, if_neg grs.out, if_pos gbs.out])]; rfl, _, rfl⟩
              · have gbb : (diaB (~~~empB p) s &&& bbF p 9 != 0#64) = false := by simpa using gb
                have gbs := lay gb
                clear gb
                go_quiet (first
                  | (go_at_call 53; (with_reducible exact quiet_add_left (hNb.out _)))
                  | (go_at_call 52; (with_reducible exact quiet_add_left (hGb.out _))))
                go_wp2_with (first | (go_at_call 50; refine Calls.mono (hDi.out _ s hs64) ?_; rintro e1 w1 ⟨rfl, rfl⟩) | (go_at_call 51; refine Calls.mono (hHv.out _ s hs64) ?_; rintro e1 w1 ⟨rfl, rfl⟩) | (go_at_call 48; refine Calls.mono (hTu.out _) ?_; rintro e1 w1 ⟨rfl, rfl⟩) | (go_at_call 54; refine (sq_bit _ _ (by omega) (by omega)).mono ?_; rintro e1 w1 ⟨rfl, rfl⟩))
                clear gbb
                by_cases gn : (tabB bbKnightMovesL s &&& bbF p 10) ≠ 0#64
                · have gnb : (tabB bbKnightMovesL s &&& bbF p 10 != 0#64) = true := by simpa using gn
                  have gns := lay gn
                  clear gn
                  go_quiet (first
                    | (go_at_call 53; (with_reducible exact quiet_add_left (hNn.out _)))
                    | (go_at_call 52; (with_reducible exact quiet_add_left (hGn.out _))))
                  go_wp2_with (first | (go_at_call 50; refine Calls.mono (hDi.out _ s hs64) ?_; rintro e1 w1 ⟨rfl, rfl⟩) | (go_at_call 51; refine Calls.mono (hHv.out _ s hs64) ?_; rintro e1 w1 ⟨rfl, rfl⟩) | (go_at_call 48; refine Calls.mono (hTu.out _) ?_; rintro e1 w1 ⟨rfl, rfl⟩) | (go_at_call 54; refine (sq_bit _ _ (by omega) (by omega)).mono ?_; rintro e1 w1 ⟨rfl, rfl⟩))
                  go_ret
                  exact ⟨by rw [yes_any hid.out hlt (by rw [hEng.out, if_neg g0s.out, if_neg gqs.out, if_neg grs.out, if_neg gbs.out, if_pos gns.out])]; rfl, _, rfl⟩
                · have gnb : (tabB bbKnightMovesL s &&& bbF p 10 != 0#64) = false := by simpa using gn
                  have gns := lay gn
                  clear gn
                  by_cases gp : (((bbF p 11 &&& 18374403900871474942#64 &&& 72057594037927935#64) <<< 7 ||| (bbF p 11 &&& 9187201950435737471#64 &&& 72057594037927935#64) <<< 9) &&& sqBit s) ≠ 0#64
                  · have gpb : (((bbF p 11 &&& 18374403900871474942#64 &&& 72057594037927935#64) <<< 7 ||| (bbF p 11 &&& 9187201950435737471#64 &&& 72057594037927935#64) <<< 9) &&& sqBit s != 0#64) = true := by simpa using gp
                    have gps := lay gp
                    clear gp
                    go_quiet (first
                      | (go_at_call 53; (with_reducible exact quiet_add_left (hNn.out _)))
                      | (go_at_call 52; (with_reducible exact quiet_add_left (hGn.out _))))
                    go_wp2_with (first | (go_at_call 50; refine Calls.mono (hDi.out _ s hs64) ?_; rintro e1 w1 ⟨rfl, rfl⟩) | (go_at_call 51; refine Calls.mono (hHv.out _ s hs64) ?_; rintro e1 w1 ⟨rfl, rfl⟩) | (go_at_call 48; refine Calls.mono (hTu.out _) ?_; rintro e1 w1 ⟨rfl, rfl⟩) | (go_at_call 54; refine (sq_bit _ _ (by omega) (by omega)).mono ?_; rintro e1 w1 ⟨rfl, rfl⟩))
                    go_ret
                    exact ⟨by rw [yes_any hid.out hlt (by rw [hEng.out, if_neg g0s.out, if_neg gqs.out, if_neg grs.out, if_neg gbs.out, if_neg gns.out, if_pos gps.out])]; rfl, _, rfl⟩
                  · have gpb : (((bbF p 11 &&& 18374403900871474942#64 &&& 72057594037927935#64) <<< 7 ||| (bbF p 11 &&& 9187201950435737471#64 &&& 72057594037927935#64) <<< 9) &&& sqBit s != 0#64) = false := by simpa using gp
                    have gps := lay gp
                    clear gp
                    go_quiet (first
                      | (go_at_call 53; (with_reducible exact quiet_add_left (hNn.out _)))
                      | (go_at_call 52; (with_reducible exact quiet_add_left (hGn.out _))))
                    go_wp2_with (first | (go_at_call 50; refine Calls.mono (hDi.out _ s hs64) ?_; rintro e1 w1 ⟨rfl, rfl⟩) | (go_at_call 51; refine Calls.mono (hHv.out _ s hs64) ?_; rintro e1 w1 ⟨rfl, rfl⟩) | (go_at_call 48; refine Calls.mono (hTu.out _) ?_; rintro e1 w1 ⟨rfl, rfl⟩) | (go_at_call 54; refine (sq_bit _ _ (by omega) (by omega)).mono ?_; rintro e1 w1 ⟨rfl, rfl⟩))
                    clear gnb
                    clear gpb
                    by_cases gk : (tabB bbKingMovesL s &&& bbF p 6) ≠ 0#64
                    · have gkb : (tabB bbKingMovesL s &&& bbF p 6 != 0#64) = true := by simpa using gk
                      have gks := lay gk
                      clear gk
                      go_quiet (first
                        | (go_at_call 53; (with_reducible exact quiet_add_left (hNk.out _)))
                        | (go_at_call 52; (with_reducible exact quiet_add_left (hGk.out _))))
                      go_wp2_with (first | (go_at_call 50; refine Calls.mono (hDi.out _ s hs64) ?_; rintro e1 w1 ⟨rfl, rfl⟩) | (go_at_call 51; refine Calls.mono (hHv.out _ s hs64) ?_; rintro e1 w1 ⟨rfl, rfl⟩) | (go_at_call 48; refine Calls.mono (hTu.out _) ?_; rintro e1 w1 ⟨rfl, rfl⟩) | (go_at_call 54; refine (sq_bit _ _ (by omega) (by omega)).mono ?_; rintro e1 w1 ⟨rfl, rfl⟩))
                      go_ret
                      exact ⟨by rw [yes_any hid.out hlt (by rw [hEng.out, if_neg g0s.out, if_neg gqs.out, if_neg grs.out, if_neg gbs.out, if_neg gns.out, if_neg gps.out, decide_eq_true gks.out])]; rfl, _, rfl⟩
                    · have gkb : (tabB bbKingMovesL s &&& bbF p 6 != 0#64) = false := by simpa using gk
                      have gks := lay gk
                      clear gk
                      go_quiet (first
                        | (go_at_call 53; (with_reducible exact quiet_add_left (hNk.out _)))
                        | (go_at_call 52; (with_reducible exact quiet_add_left (hGk.out _))))
                      go_wp2_with (first | (go_at_call 50; refine Calls.mono (hDi.out _ s hs64) ?_; rintro e1 w1 ⟨rfl, rfl⟩) | (go_at_call 51; refine Calls.mono (hHv.out _ s hs64) ?_; rintro e1 w1 ⟨rfl, rfl⟩) | (go_at_call 48; refine Calls.mono (hTu.out _) ?_; rintro e1 w1 ⟨rfl, rfl⟩) | (go_at_call 54; refine (sq_bit _ _ (by omega) (by omega)).mono ?_; rintro e1 w1 ⟨rfl, rfl⟩))
                      go_roundw
                      case rel =>
                        first
                        | exact ⟨k + 1, _, by omega, by go_num, rfl, no_more hals.out hid.out (by rw [hEng.out, if_neg g0s.out, if_neg gqs.out, if_neg grs.out, if_neg gbs.out, if_neg gns.out, if_neg gps.out, decide_eq_false gks.out])⟩
                        | ((repeat apply Exists.intro); exact ⟨⟨k + 1, _, by omega, by go_num, rfl, no_more hals.out hid.out (by rw [hEng.out, if_neg g0s.out, if_neg gqs.out, if_neg grs.out, if_neg gbs.out, if_neg gns.out, if_neg gps.out, decide_eq_false gks.out])⟩, rfl⟩)
                      case measure => simp [intOf]; omega
      · have hEng := lay (engB_eq1 p s)
        have hNq := lay (fun n => sa_np hEs.out n 1 0 (by decide) (by decide) 2 1 2 rfl rfl rfl)
        have hGq := lay (fun n => sa_get hEs.out n 1 (by decide) 2 rfl)
        have hNr := lay (fun n => sa_np hEs.out n 2 0 (by decide) (by decide) 3 1 3 rfl rfl rfl)
        have hGr := lay (fun n => sa_get hEs.out n 2 (by decide) 3 rfl)
        have hNb := lay (fun n => sa_np hEs.out n 3 0 (by decide) (by decide) 4 1 4 rfl rfl rfl)
        have hGb := lay (fun n => sa_get hEs.out n 3 (by decide) 4 rfl)
        have hNn := lay (fun n => sa_np hEs.out n 4 0 (by decide) (by decide) 5 1 5 rfl rfl rfl)
        have hGn := lay (fun n => sa_get hEs.out n 4 (by decide) 5 rfl)
        have hNk := lay (fun n => sa_np hEs.out n 0 0 (by decide) (by decide) 1 1 1 rfl rfl rfl)
        have hGk := lay (fun n => sa_get hEs.out n 0 (by decide) 1 rfl)
        by_cases g0 : ((diaB (~~~empB p) s ||| hvB (~~~empB p) s) &&& whiteB p ||| tabB bbKnightMovesL s &&& whiteB p) = 0#64
        · have g0b : ((diaB (~~~empB p) s ||| hvB (~~~empB p) s) &&& whiteB p ||| tabB bbKnightMovesL s &&& whiteB p == 0#64) = true := by rw [g0]; rfl
          have g0s := lay g0
          clear g0
          go_quiet (first
            | (go_at_call 50; (with_reducible exact quiet_add_left (hDi.out _ s hs64)))
            | (go_at_call 51; (with_reducible exact quiet_add_left (hHv.out _ s hs64))))
          go_wp2_with fail
          go_roundw
          case rel =>
            first
            | exact ⟨k + 1, _, by omega, by go_num, rfl, no_more hals.out hid.out (by rw [hEng.out, if_pos g0s.out])⟩
            | ((repeat apply Exists.intro); exact ⟨⟨k + 1, _, by omega, by go_num, rfl, no_more hals.out hid.out (by rw [hEng.out, if_pos g0s.out])⟩, rfl⟩)
          case measure => simp [intOf]; omega
        · have g0b : ((diaB (~~~empB p) s ||| hvB (~~~empB p) s) &&& whiteB p ||| tabB bbKnightMovesL s &&& whiteB p == 0#64) = false := by simpa using g0
          have g0s := lay g0
          clear g0
          go_quiet (first
            | (go_at_call 50; (with_reducible exact quiet_add_left (hDi.out _ s hs64)))
            | (go_at_call 51; (with_reducible exact quiet_add_left (hHv.out _ s hs64))))
          go_wp2_with fail
          clear g0b
          by_cases gq : ((diaB (~~~empB p) s ||| hvB (~~~empB p) s) &&& bbF p 1) ≠ 0#64
          · have gqb : ((diaB (~~~empB p) s ||| hvB (~~~empB p) s) &&& bbF p 1 != 0#64) = true := by simpa using gq
            have gqs := lay gq
            clear gq
            go_quiet (first
              | (go_at_call 53; (with_reducible exact quiet_add_left (hNq.out _)))
              | (go_at_call 52; (with_reducible exact quiet_add_left (hGq.out _))))
            go_wp2_with (first | (go_at_call 50; refine Calls.mono (hDi.out _ s hs64) ?_; rintro e1 w1 ⟨rfl, rfl⟩) | (go_at_call 51; refine Calls.mono (hHv.out _ s hs64) ?_; rintro e1 w1 ⟨rfl, rfl⟩) | (go_at_call 48; refine Calls.mono (hTu.out _) ?_; rintro e1 w1 ⟨rfl, rfl⟩) | (go_at_call 54; refine (sq_bit _ _ (by omega) (by omega)).mono ?_; rintro e1 w1 ⟨rfl, rfl⟩))
            go_ret
            exact ⟨by rw [yes_any hid.out hlt (by rw [hEng.out, if_neg g0s.out, if_pos gqs.out])]; rfl, _, rfl⟩
          · have gqb : ((diaB (~~~empB p) s ||| hvB (~~~empB p) s) &&& bbF p 1 != 0#64) = false := by simpa using gq
            have gqs := lay gq
            clear gq
            go_quiet (first
              | (go_at_call 53; (with_reducible exact quiet_add_left (hNq.out _)))
              | (go_at_call 52; (with_reducible exact quiet_add_left (hGq.out _))))
            go_wp2_with (first | (go_at_call 50; refine Calls.mono (hDi.out _ s hs64) ?_; rintro e1 w1 ⟨rfl, rfl⟩) | (go_at_call 51; refine Calls.mono (hHv.out _ s hs64) ?_; rintro e1 w1 ⟨rfl, rfl⟩) | (go_at_call 48; refine Calls.mono (hTu.out _) ?_; rintro e1 w1 ⟨rfl, rfl⟩) | (go_at_call 54; refine (sq_bit _ _ (by omega) (by omega)).mono ?_; rintro e1 w1 ⟨rfl, rfl⟩))
            clear gqb
            by_cases gr : (hvB (~~~empB p) s &&& bbF p 2) ≠ 0#64
            · have grb : (hvB (~~~empB p) s &&& bbF p 2 != 0#64) = true := by simpa using gr
              have grs := lay gr
              clear gr
              go_quiet (first
                | (go_at_call 53; (with_reducible exact quiet_add_left (hNr.out _)))
                | (go_at_call 52; (with_reducible exact quiet_add_left (hGr.out _))))
              go_wp2_with (first | (go_at_call 50; refine Calls.mono (hDi.out _ s hs64) ?_; rintro e1 w1 ⟨rfl, rfl⟩) | (go_at_call 51; refine Calls.mono (hHv.out _ s hs64) ?_; rintro e1 w1 ⟨rfl, rfl⟩) | (go_at_call 48; refine Calls.mono (hTu.out _) ?_; rintro e1 w1 ⟨rfl, rfl⟩) | (go_at_call 54; refine (sq_bit _ _ (by omega) (by omega)).mono ?_; rintro e1 w1 ⟨rfl, rfl⟩))
              go_ret
              exact ⟨by rw [yes_any hid.out hlt (by rw [hEng.out, if_neg g0s.out, if_neg gqs.out, if_pos grs.out])]; rfl, _, rfl⟩
            · have grb : (hvB (~~~empB p) s &&& bbF p 2 != 0#64) = false := by simpa using gr
              have grs := lay gr
              clear gr
              go_quiet (first
                | (go_at_call 53; (with_reducible exact quiet_add_left (hNr.out _)))
                | (go_at_call 52; (with_reducible exact quiet_add_left (hGr.out _))))
              go_wp2_with (first | (go_at_call 50; refine Calls.mono (hDi.out _ s hs64) ?_; rintro e1 w1 ⟨rfl, rfl⟩) | (go_at_call 51; refine Calls.mono (hHv.out _ s hs64) ?_; rintro e1 w1 ⟨rfl, rfl⟩) | (go_at_call 48; refine Calls.mono (hTu.out _) ?_; rintro e1 w1 ⟨rfl, rfl⟩) | (go_at_call 54; refine (sq_bit _ _ (by omega) (by omega)).mono ?_; rintro e1 w1 ⟨rfl, rfl⟩))
              clear grb
              by_cases gb : (diaB (~~~empB p) s &&& bbF p 3) ≠ 0#64
              · have gbb : (diaB (~~~empB p) s &&& bbF p 3 != 0#64) = true := by simpa using gb
                have gbs := lay gb
                clear gb
                go_quiet (first
                  | (go_at_call 53; (with_reducible exact quiet_add_left (hNb.out _)))
                  | (go_at_call 52; (with_reducible exact quiet_add_left (hGb.out _))))
                go_wp2_with (first | (go_at_call 50; refine Calls.mono (hDi.out _ s hs64) ?_; rintro e1 w1 ⟨rfl, rfl⟩) | (go_at_call 51; refine Calls.mono (hHv.out _ s hs64) ?_; rintro e1 w1 ⟨rfl, rfl⟩) | (go_at_call 48; refine Calls.mono (hTu.out _) ?_; rintro e1 w1 ⟨rfl, rfl⟩) | (go_at_call 54; refine (sq_bit _ _ (by omega) (by omega)).mono ?_; rintro e1 w1 ⟨rfl, rfl⟩))
                go_ret
                exact ⟨by rw [yes_any hid.out hlt (by rw [hEng.out, if_neg g0s.out, if_neg gqs.out, if_neg grs.out, if_pos gbs.out])]; rfl, _, rfl⟩
              · have gbb : (diaB (~~~empB p) s &&& bbF p 3 != 0#64) = false := by simpa using gb
                have gbs := lay gb
                clear gb
                go_quiet (first
                  | (go_at_call 53; (with_reducible exact quiet_add_left (hNb.out _)))
                  | (go_at_call 52; (with_reducible exact quiet_add_left (hGb.out _))))
                go_wp2_with (first | (go_at_call 50; refine Calls.mono (hDi.out _ s hs64) ?_; rintro e1 w1 ⟨rfl, rfl⟩) | (go_at_call 51; refine Calls.mono (hHv.out _ s hs64) ?_; rintro e1 w1 ⟨rfl, rfl⟩) | (go_at_call 48; refine Calls.mono (hTu.out _) ?_; rintro e1 w1 ⟨rfl, rfl⟩) | (go_at_call 54; refine (sq_bit _ _ (by omega) (by omega)).mono ?_; rintro e1 w1 ⟨rfl, rfl⟩))
                clear gbb
                by_cases gn : (tabB bbKnightMovesL s &&& bbF p 4) ≠ 0#64
                · have gnb : (tabB bbKnightMovesL s &&& bbF p 4 != 0#64) = true := by simpa using gn
                  have gns := lay gn
                  clear gn
                  go_quiet (first
                    | (go_at_call 53; (with_reducible exact quiet_add_left (hNn.out _)))
                    | (go_at_call 52; (with_reducible exact quiet_add_left (hGn.out _))))
                  go_wp2_with (first | (go_at_call 50; refine Calls.mono (hDi.out _ s hs64) ?_; rintro e1 w1 ⟨rfl, rfl⟩) | (go_at_call 51; refine Calls.mono (hHv.out _ s hs64) ?_; rintro e1 w1 ⟨rfl, rfl⟩) | (go_at_call 48; refine Calls.mono (hTu.out _) ?_; rintro e1 w1 ⟨rfl, rfl⟩) | (go_at_call 54; refine (sq_bit _ _ (by omega) (by omega)).mono ?_; rintro e1 w1 ⟨rfl, rfl⟩))
                  go_ret
                  exact ⟨by rw [yes_any hid.out hlt (by rw [hEng.out, if_neg g0s.out, if_neg gqs.out, if_neg grs.out, if_neg gbs.out, if_pos gns.out])]; rfl, _, rfl⟩
                · have gnb : (tabB bbKnightMovesL s &&& bbF p 4 != 0#64) = false := by simpa using gn
                  have gns := lay gn
                  clear gn
                  by_cases gp : (((bbF p 5 &&& 18374403900871474942#64 &&& 18446744073709551360#64) >>> 9 ||| (bbF p 5 &&& 9187201950435737471#64 &&& 18446744073709551360#64) >>> 7) &&& sqBit s) ≠ 0#64
                  · have gpb : (((bbF p 5 &&& 18374403900871474942#64 &&& 18446744073709551360#64) >>> 9 ||| (bbF p 5 &&& 9187201950435737471#64 &&& 18446744073709551360#64) >>> 7) &&& sqBit s != 0#64) = true := by simpa using gp
                    have gps := lay gp
                    clear gp
                    go_quiet (first
                      | (go_at_call 53; (with_reducible exact quiet_add_left (hNn.out _)))
                      | (go_at_call 52; (with_reducible exact quiet_add_left (hGn.out _))))
                    go_wp2_with (first | (go_at_call 50; refine Calls.mono (hDi.out _ s hs64) ?_; rintro e1 w1 ⟨rfl, rfl⟩) | (go_at_call 51; refine Calls.mono (hHv.out _ s hs64) ?_; rintro e1 w1 ⟨rfl, rfl⟩) | (go_at_call 48; refine Calls.mono (hTu.out _) ?_; rintro e1 w1 ⟨rfl, rfl⟩) | (go_at_call 54; refine (sq_bit _ _ (by omega) (by omega)).mono ?_; rintro e1 w1 ⟨rfl, rfl⟩))
                    go_ret
                    exact ⟨by rw [yes_any hid.out hlt (by rw [hEng.out, if_neg g0s.out, if_neg gqs.out, if_neg grs.out, if_neg gbs.out, if_neg gns.out, if_pos gps.out])]; rfl, _, rfl⟩
                  · have gpb : (((bbF p 5 &&& 18374403900871474942#64 &&& 18446744073709551360#64) >>> 9 ||| (bbF p 5 &&& 9187201950435737471#64 &&& 18446744073709551360#64) >>> 7) &&& sqBit s != 0#64) = false := by simpa using gp
                    have gps := lay gp
                    clear gp
                    go_quiet (first
                      | (go_at_call 53; (with_reducible exact quiet_add_left (hNn.out _)))
                      | (go_at_call 52; (with_reducible exact quiet_add_left (hGn.out _))))
                    go_wp2_with (first | (go_at_call 50; refine Calls.mono (hDi.out _ s hs64) ?_; rintro e1 w1 ⟨rfl, rfl⟩) | (go_at_call 51; refine Calls.mono (hHv.out _ s hs64) ?_; rintro e1 w1 ⟨rfl, rfl⟩) | (go_at_call 48; refine Calls.mono (hTu.out _) ?_; rintro e1 w1 ⟨rfl, rfl⟩) | (go_at_call 54; refine (sq_bit _ _ (by omega) (by omega)).mono ?_; rintro e1 w1 ⟨rfl, rfl⟩))
                    clear gnb
                    clear gpb
                    by_cases gk : (tabB bbKingMovesL s &&& bbF p 0) ≠ 0#64
                    · have gkb : (tabB bbKingMovesL s &&& bbF p 0 != 0#64) = true := by simpa using gk
                      have gks := lay gk
                      clear gk
                      go_quiet (first
                        | (go_at_call 53; (with_reducible exact quiet_add_left (hNk.out _)))
                        | (go_at_call 52; (with_reducible exact quiet_add_left (hGk.out _))))
                      go_wp2_with (first | (go_at_call 50; refine Calls.mono (hDi.out _ s hs64) ?_; rintro e1 w1 ⟨rfl, rfl⟩) | (go_at_call 51; refine Calls.mono (hHv.out _ s hs64) ?_; rintro e1 w1 ⟨rfl, rfl⟩) | (go_at_call 48; refine Calls.mono (hTu.out _) ?_; rintro e1 w1 ⟨rfl, rfl⟩) | (go_at_call 54; refine (sq_bit _ _ (by omega) (by omega)).mono ?_; rintro e1 w1 ⟨rfl, rfl⟩))
                      go_ret
                      exact ⟨by rw [yes_any hid.out hlt (by rw [hEng.out, if_neg g0s.out, if_neg gqs.out, if_neg grs.out, if_neg gbs.out, if_neg gns.out, if_neg gps.out, decide_eq_true gks.out])]; rfl, _, rfl⟩
                    · have gkb : (tabB bbKingMovesL s &&& bbF p 0 != 0#64) = false := by simpa using gk
                      have gks := lay gk
                      clear gk
                      go_quiet (first
                        | (go_at_call 53; (with_reducible exact quiet_add_left (hNk.out _)))
                        | (go_at_call 52; (with_reducible exact quiet_add_left (hGk.out _))))
                      go_wp2_with (first | (go_at_call 50; refine Calls.mono (hDi.out _ s hs64) ?_; rintro e1 w1 ⟨rfl, rfl⟩) | (go_at_call 51; refine Calls.mono (hHv.out _ s hs64) ?_; rintro e1 w1 ⟨rfl, rfl⟩) | (go_at_call 48; refine Calls.mono (hTu.out _) ?_; rintro e1 w1 ⟨rfl, rfl⟩) | (go_at_call 54; refine (sq_bit _ _ (by omega) (by omega)).mono ?_; rintro e1 w1 ⟨rfl, rfl⟩))
                      go_roundw
                      case rel =>
                        first
                        | exact ⟨k + 1, _, by omega, by go_num, rfl, no_more hals.out hid.out (by rw [hEng.out, if_neg g0s.out, if_neg gqs.out, if_neg grs.out, if_neg gbs.out, if_neg gns.out, if_neg gps.out, decide_eq_false gks.out])⟩
                        | ((repeat apply Exists.intro); exact ⟨⟨k + 1, _, by omega, by go_num, rfl, no_more hals.out hid.out (by rw [hEng.out, if_neg g0s.out, if_neg gqs.out, if_neg grs.out, if_neg gbs.out, if_neg gns.out, if_neg gps.out, decide_eq_false gks.out])⟩, rfl⟩)
                      case measure => simp [intOf]; omega
    · obtain rfl : k = l.length := by omega
      go_wp2_with fail
      go_ret
      exact ⟨by rw [no_any hals.out]; rfl, _, rfl⟩
end Go.Proofs.YtplkcmlpomjojaaDoor
