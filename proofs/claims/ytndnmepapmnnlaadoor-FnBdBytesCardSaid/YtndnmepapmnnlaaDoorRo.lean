/- A board that is flipped, transposed, rotated. For every board of pieces from 0 to 12. -/
import Derived.Test.YtndnmepapmnnlaaDoorBs
namespace Go.Proofs.YtndnmepapmnnlaaDoor
open Go Go.RowKit
set_option maxHeartbeats 2000000
set_option linter.unusedSimpArgs false
set_option linter.unusedVariables false
set_option maxRecDepth 100000

/-- The board whose square j has what σ j had. -/
def perm (σ : Nat → Nat) (p : List Int) : List Int := (List.range 64).map fun j => p.getD (σ j) 0
theorem perm_len (σ : Nat → Nat) (p : List Int) : (perm σ p).length = 64 := by simp [perm]
theorem perm_get (σ : Nat → Nat) (p : List Int) (j : Nat) (h : j < 64) : (perm σ p).getD j 0 = p.getD (σ j) 0 := by simp [perm, h]
theorem perm_brd (σ : Nat → Nat) (p : List Int) (hp : Brd p) : Brd (perm σ p) := by
  have h : ∀ s : Nat, 0 ≤ (perm σ p).getD s 0 ∧ (perm σ p).getD s 0 ≤ 12 := fun s => by
    by_cases hs : s < 64
    · rw [perm_get σ p s hs]; exact ⟨hp.lo _, hp.hi _⟩
    · have : (perm σ p).getD s 0 = 0 := by simp [List.getD, List.getElem?_eq_none (show (perm σ p).length ≤ s by rw [perm_len]; omega)]
      rw [this]; decide
  exact ⟨perm_len σ p, fun s => (h s).1, fun s => (h s).2⟩
/-- The first k squares, each under its new place; σ is its own inverse. -/
def mapTo (σ : Nat → Nat) (p : List Int) (k : Nat) : Int → Option Value := fun j => if 0 ≤ j ∧ j < 64 ∧ σ j.toNat < k then some (.int .i8 (p.getD (σ j.toNat) 0)) else none
theorem mapTo_zero (σ : Nat → Nat) (p : List Int) : mapTo σ p 0 = fun _ => none := by funext j; unfold mapTo; rw [if_neg (by omega)]
theorem mapTo_step (σ : Nat → Nat) (p : List Int) (k : Nat) (hk : k < 64) (hσ : ∀ j, j < 64 → σ j < 64) (hi : ∀ j, j < 64 → σ (σ j) = j) :
    mput (mapTo σ p k) ((σ k : Nat) : Int) (.int .i8 (p.getD k 0)) = mapTo σ p (k + 1) := by
  funext j
  have h1 := hσ k hk
  unfold mput mapTo
  by_cases e : j = ((σ k : Nat) : Int)
  · subst e
    rw [if_pos rfl, if_pos ⟨by omega, by omega, by rw [Int.toNat_natCast, hi k hk]; omega⟩, Int.toNat_natCast, hi k hk]
  · rw [if_neg e]
    by_cases c : 0 ≤ j ∧ j < 64
    · have hne : σ j.toNat ≠ k := fun h => e (by
        have := hi j.toNat (by omega)
        rw [h] at this
        omega)
      by_cases c2 : σ j.toNat < k
      · rw [if_pos ⟨c.1, c.2, c2⟩, if_pos ⟨c.1, c.2, by omega⟩]
      · rw [if_neg (by omega), if_neg (by omega)]
    · rw [if_neg (by omega), if_neg (by omega)]
theorem mapTo_says (σ : Nat → Nat) (p : List Int) (hσ : ∀ j, j < 64 → σ j < 64) : Says (mapTo σ p 64) (perm σ p) := fun j hj => by
  right
  rw [perm_get σ p j hj]
  unfold mapTo
  rw [if_pos ⟨by omega, by omega, by rw [Int.toNat_natCast]; exact hσ j hj⟩, Int.toNat_natCast]
def flipS (j : Nat) : Nat := 8 * (7 - j / 8) + j % 8
def tranS (j : Nat) : Nat := 8 * (7 - j % 8) + (7 - j / 8)
theorem flipS_lt (j : Nat) (h : j < 64) : flipS j < 64 := by unfold flipS; omega
theorem tranS_lt (j : Nat) (h : j < 64) : tranS j < 64 := by unfold tranS; omega
theorem flipS_inv (j : Nat) (h : j < 64) : flipS (flipS j) = j := by unfold flipS; omega
theorem tranS_inv (j : Nat) (h : j < 64) : tranS (tranS j) = j := by unfold tranS; omega

theorem ro_file (s : Int) (w : World) (h0 : 0 ≤ s) (h1 : s ≤ 63) :
    Calls Tryd.prog 54 #[.int .i8 s] w fun e w' => e = .returned (.int .i8 (s % 8)) ∧ w = w' := by
  go_enter Tryd.func54, Tryd.ntmps54
  go_wp2
  go_ret
  exact ⟨rfl, rfl⟩
theorem ro_rank (s : Int) (w : World) (h0 : 0 ≤ s) (h1 : s ≤ 63) :
    Calls Tryd.prog 55 #[.int .i8 s] w fun e w' => e = .returned (.int .i8 (s / 8)) ∧ w = w' := by
  have ht : s.tdiv 8 = s / 8 := Int.tdiv_eq_ediv_of_nonneg h0
  have hd0 : 0 ≤ s / 8 := by omega
  have hd1 : s / 8 ≤ 7 := by omega
  go_enter Tryd.func55, Tryd.ntmps55
  go_wp2
  go_ret
  exact ⟨rfl, rfl⟩
theorem ro_flip (p : List Int) (hp : Brd p) (g : Nat) (w : World) (hA : IntSl w 1 .i8 allL) (hg : w.heap[g]? = some (.cells (brd p) 64 (0, 0))) :
    Calls Tryd.prog 43 #[.pointer (some ⟨g, 0, none⟩), .int .i64 0] w fun e' w' => ∃ g', e' = .returned (.pointer (some ⟨g', 0, none⟩)) ∧ w'.heap[g']? = some (.cells (brd (perm flipS p)) 64 (0, 0)) ∧ Below w.heap.size w w' := by
  have hmm := run_makeMap' Tryd.prog
  have hglt : g < w.heap.size := (Array.getElem?_eq_some_iff.1 hg).1
  go_enter Tryd.func43, Tryd.ntmps43
  go_wp2_with fail
  go_loopw [13] (fun i wr => ∃ k n : Nat, k ≤ 64 ∧ i = .int .i64 (k : Int) ∧ IMap wr w.heap.size (mapTo flipS p k) n ∧ Below w.heap.size w wr) (fun i _ => (64 - intOf i).toNat)
  case atStart => exact ⟨0, 0, by omega, rfl, by rw [mapTo_zero]; exact imap_new w, (Below.refl _ _).alloc (Nat.le_refl _) _⟩
  case round =>
    obtain ⟨k, n, hk, rfl, hmap, hbel⟩ := hrel
    by_cases hlt : k < 64
    · have hlo := hp.lo k
      have hhi := hp.hi k
      have hgr := (hbel.block g hglt).trans hg
      have hpc := bo_piece p _ _ _ _ _ g (k : Int) wr (hA.below hbel) hgr (by omega) (by omega) (by simpa using hlo) (by simpa using hhi)
      simp only [Int.toNat_natCast] at hpc
      obtain ⟨o, hrun, him⟩ := imap_update (P := Tryd.prog) (T := 48) (K := 52) (E := 67) (by kernel_rfl) (by kernel_rfl) hmap ((flipS k : Nat) : Int) (.int .i8 (p.getD k 0))
      rw [mapTo_step flipS p k hlt flipS_lt flipS_inv] at him
      have hsq : (7 - (k : Int) / 8) * 8 + (k : Int) % 8 = ((flipS k : Nat) : Int) := by unfold flipS; omega
      have hf0 := flipS_lt k hlt
      clear hgr
      generalize p.getD k 0 = v at *
      go_wp2_with (first
        | (go_at_call 54; refine (ro_file _ _ (by omega) (by omega)).mono ?_; rintro e1 w1 ⟨rfl, rfl⟩)
        | (go_at_call 55; refine (ro_rank _ _ (by omega) (by omega)).mono ?_; rintro e1 w1 ⟨rfl, rfl⟩)
        | (go_at_call 56; refine (sq_new _ _ _ (by omega) (by omega) (by omega) (by omega)).mono ?_; rintro e1 w1 ⟨rfl, rfl⟩; rw [hsq])
        | (go_at_call 42; refine hpc.mono ?_; rintro e1 w1 ⟨rfl, rfl⟩))
      go_roundw
      case rel => exact ⟨k + 1, _, by omega, by go_num, him, below_setBlock hbel (Nat.le_refl _) o⟩
      case measure => simp [intOf]; omega
    · obtain rfl : k = 64 := by omega
      have hsz := hbel.size
      go_wp2_with (go_at_call 41; refine (bn_new (perm flipS p) _ _ _ _ (hA.below hbel) hmap (mapTo_says flipS p flipS_lt)).mono ?_; rintro e1 w1 ⟨rfl, hg1, hb1⟩)
      go_ret
      exact ⟨_, rfl, hg1, hbel.trans (hb1.mono hsz)⟩
theorem ro_tran (p : List Int) (hp : Brd p) (g : Nat) (w : World) (hA : IntSl w 1 .i8 allL) (hg : w.heap[g]? = some (.cells (brd p) 64 (0, 0))) :
    Calls Tryd.prog 44 #[.pointer (some ⟨g, 0, none⟩)] w fun e' w' => ∃ g', e' = .returned (.pointer (some ⟨g', 0, none⟩)) ∧ w'.heap[g']? = some (.cells (brd (perm tranS p)) 64 (0, 0)) ∧ Below w.heap.size w w' := by
  have hmm := run_makeMap' Tryd.prog
  have hglt : g < w.heap.size := (Array.getElem?_eq_some_iff.1 hg).1
  go_enter Tryd.func44, Tryd.ntmps44
  go_wp2_with fail
  go_loopw [9] (fun i wr => ∃ k n : Nat, k ≤ 64 ∧ i = .int .i64 (k : Int) ∧ IMap wr w.heap.size (mapTo tranS p k) n ∧ Below w.heap.size w wr) (fun i _ => (64 - intOf i).toNat)
  case atStart => exact ⟨0, 0, by omega, rfl, by rw [mapTo_zero]; exact imap_new w, (Below.refl _ _).alloc (Nat.le_refl _) _⟩
  case round =>
    obtain ⟨k, n, hk, rfl, hmap, hbel⟩ := hrel
    by_cases hlt : k < 64
    · have hlo := hp.lo k
      have hhi := hp.hi k
      have hgr := (hbel.block g hglt).trans hg
      have hpc := bo_piece p _ _ _ _ _ g (k : Int) wr (hA.below hbel) hgr (by omega) (by omega) (by simpa using hlo) (by simpa using hhi)
      simp only [Int.toNat_natCast] at hpc
      obtain ⟨o, hrun, him⟩ := imap_update (P := Tryd.prog) (T := 48) (K := 52) (E := 67) (by kernel_rfl) (by kernel_rfl) hmap ((tranS k : Nat) : Int) (.int .i8 (p.getD k 0))
      rw [mapTo_step tranS p k hlt tranS_lt tranS_inv] at him
      have hsq : (7 - (k : Int) % 8) * 8 + (7 - (k : Int) / 8) = ((tranS k : Nat) : Int) := by unfold tranS; omega
      have hf0 := tranS_lt k hlt
      clear hgr
      generalize p.getD k 0 = v at *
      go_wp2_with (first
        | (go_at_call 54; refine (ro_file _ _ (by omega) (by omega)).mono ?_; rintro e1 w1 ⟨rfl, rfl⟩)
        | (go_at_call 55; refine (ro_rank _ _ (by omega) (by omega)).mono ?_; rintro e1 w1 ⟨rfl, rfl⟩)
        | (go_at_call 56; refine (sq_new _ _ _ (by omega) (by omega) (by omega) (by omega)).mono ?_; rintro e1 w1 ⟨rfl, rfl⟩; rw [hsq])
        | (go_at_call 42; refine hpc.mono ?_; rintro e1 w1 ⟨rfl, rfl⟩))
      go_roundw
      case rel => exact ⟨k + 1, _, by omega, by go_num, him, below_setBlock hbel (Nat.le_refl _) o⟩
      case measure => simp [intOf]; omega
    · obtain rfl : k = 64 := by omega
      have hsz := hbel.size
      go_wp2_with (go_at_call 41; refine (bn_new (perm tranS p) _ _ _ _ (hA.below hbel) hmap (mapTo_says tranS p tranS_lt)).mono ?_; rintro e1 w1 ⟨rfl, hg1, hb1⟩)
      go_ret
      exact ⟨_, rfl, hg1, hbel.trans (hb1.mono hsz)⟩
/-- A quarter clockwise. -/
def rotS (j : Nat) : Nat := 8 * (j % 8) + (7 - j / 8)
theorem rotS_eq (p : List Int) : perm tranS (perm flipS p) = perm rotS p := by
  apply List.ext_getElem
  · simp [perm]
  · intro j h1 h2
    have hj : j < 64 := by simpa [perm] using h1
    have e := perm_get flipS p (tranS j) (tranS_lt j hj)
    have e2 : flipS (tranS j) = rotS j := by unfold flipS tranS rotS; omega
    simp only [perm, List.getElem_map, List.getElem_range] at e ⊢
    rw [e, e2]
theorem ro_rotate (p : List Int) (hp : Brd p) (g : Nat) (w : World) (hA : IntSl w 1 .i8 allL) (hg : w.heap[g]? = some (.cells (brd p) 64 (0, 0))) :
    Calls Tryd.prog 28 #[.pointer (some ⟨g, 0, none⟩)] w fun e' w' => ∃ g', e' = .returned (.pointer (some ⟨g', 0, none⟩)) ∧ w'.heap[g']? = some (.cells (brd (perm rotS p)) 64 (0, 0)) ∧ Below w.heap.size w w' := by
  go_enter Tryd.func28, Tryd.ntmps28
  go_wp2_with fail
  refine (ro_flip p hp g w hA hg).mono ?_
  rintro e1 w1 ⟨g1, rfl, hg1, hb1⟩
  go_wp2_with fail
  refine (ro_tran _ (perm_brd flipS p hp) g1 w1 (hA.below hb1) hg1).mono ?_
  rintro e2 w2 ⟨g2, rfl, hg2, hb2⟩
  rw [rotS_eq] at hg2
  go_wp2_with fail
  go_ret
  exact ⟨_, rfl, hg2, hb1.trans (hb2.mono hb1.size)⟩
theorem ri_idle (p q : Addr) (w : World) :
    CallsD Tryd.prog 27 #[.pointer (some p), .pointer (some q)] .returning w fun e u' w' => e = .returned (.tuple #[]) ∧ u' = .returning ∧ w = w' := by
  refine callsD_of_wpS Tryd.func27 rfl fun c₀ cs hu => ?_
  apply wpS_seq
  apply wpS_region
  simp [wpOpsS, go_sem, recoverD, hu, Tryd.ntmps27, Exit.thenS]
  refine wpS_cond (t := false) (by simp [Act.eval, Array.replicate]) ?_
  simp only [Bool.false_eq_true, if_false]
  refine wpS_of_wp (wp_skip ?_)
  cases c₀
  simp_all [bodyPostS, results, Tryd.results27]
/-- Two results: a variable of many cells, and one of one. -/
theorem results_cell2 {P : Program} {fn : Func} {p q : Tmp} {ty tz : TypeId} (h : fn.results = #[.cell p ty, .cell q tz]) (tmps : Array Value) (w : World) (g : Nat) (t : TypeId) (cs : Array Value) (fr : Nat × Nat) (d dz : TypeDesc)
    (hp : tmps.getD p undef = .pointer (some ⟨g, 0, none⟩)) (hg : w.heap[g]? = some (.cells cs t fr))
    (hu : P.underlying ty = some d) (hd : (match d with | .struct _ | .array _ _ => true | _ => false) = true) (hi : (P.info? ty).map (·.size) = some cs.size) (g2 : Nat) (v : Value)
    (hq : tmps.getD q undef = .pointer (some ⟨g2, 0, none⟩)) (hv : w.cell? ⟨g2, 0, none⟩ = some v) (hz : P.underlying tz = some dz) (hdz : aggD dz = false) :
    (results fn tmps).run P w = .ok (.tuple #[.agg cs, v]) w := by
  have hp' : tmps[p]?.getD undef = .pointer (some ⟨g, 0, none⟩) := by simpa using hp
  have hq' : tmps[q]?.getD undef = .pointer (some ⟨g2, 0, none⟩) := by simpa using hq
  simp [results, h, hp', hq', asAddr, run_loadVar_row w g t ty cs fr d hg hu hd hi, load_one hz hdz hv]
/-- The call's own variables: the argument, and two results. -/
def roW (w : World) (p : List Int) : World := ((w.alloc (.cells (ints p) 22)).alloc (.cells (ints (List.replicate 64 0)) 22)).alloc (.cells #[.bool false] 4)
theorem roW_rows (w : World) (p : List Int) : (roW w p).heap[w.heap.size]? = some (.cells (ints p) 22 (0, 0)) ∧ (roW w p).heap[w.heap.size + 1]? = some (.cells (ints (List.replicate 64 0)) 22 (0, 0)) ∧
    (roW w p).heap[w.heap.size + 1 + 1]? = some (.cells #[.bool false] 4 (0, 0)) ∧ Below w.heap.size w (roW w p) ∧ (roW w p).heap.size = w.heap.size + 3 := by
  refine ⟨heap_keep (heap_alloc2_old w _ _), heap_keep (heap_alloc2_new w _ _), heap_at _ _ _ (by simp), ?_, by simp [roW]⟩
  exact (((Below.refl _ _).alloc (Nat.le_refl _) _).alloc (by simp) _).alloc (by simp; omega) _
theorem ro_impl (p : List Int) (hp : Brd p) (w : World) (hA : IntSl w 1 .i8 allL) :
    Calls Tryd.prog 13 #[.agg (ints p)] w fun e' w' => e' = .returned (.tuple #[.agg (ints (perm rotS p)), .bool true]) ∧ Below w.heap.size w w' := by
  have hmf := makeFunc_run Tryd.prog
  obtain ⟨hr0, hr1, hr2, hBW, hsz⟩ := roW_rows w p
  have hlq := perm_len rotS p
  go_enter_defers Tryd.func13, Tryd.ntmps13
  go_wp2_with (refine at_load_row hr0 Tryd.underlying22 rfl ?_ rfl ?_; (rw [ints_size, hp.len]; kernel_rfl))
  change Calls _ _ _ (roW w p) _
  generalize roW w p = W at *
  refine (bp_board p hp W (hA.below hBW)).mono ?_
  rintro e1 w1 ⟨g, rfl, hge, hg1, hb1⟩
  have hA1 := (hA.below hBW).below hb1
  go_wp2_with fail
  refine (ro_rotate p hp g w1 hA1 hg1).mono ?_
  rintro e2 w2 ⟨g2, rfl, hg2, hb2⟩
  go_wp2_with fail
  refine (bq_plain (perm rotS p) (perm_brd rotS p hp) g2 w2 (hA1.below hb2) hg2).mono ?_
  rintro e3 w3 ⟨rfl, hb3⟩
  have hB3 : Below W.heap.size W w3 := (hb1.trans (hb2.mono hb1.size)).trans (hb3.mono (Nat.le_trans hb1.size hb2.size))
  have r1 := (hB3.block (w.heap.size + 1) (by omega)).trans hr1
  have r2 := (hB3.block (w.heap.size + 1 + 1) (by omega)).trans hr2
  have hBw := hBW.trans (hB3.mono hBW.size)
  have c2 : (w3.setRow (w.heap.size + 1) (ints (perm rotS p))).cell? ⟨w.heap.size + 1 + 1, 0, none⟩ = some (.bool false) := cell_of_row _ _ 0 _ _ _ ((setRow_other _ _ _ _ (by omega)).trans r2)
  have f2 := frozen_of_row (w3.setRow (w.heap.size + 1) (ints (perm rotS p))) (w.heap.size + 1 + 1) 0 _ _ ((setRow_other _ _ _ _ (by omega)).trans r2)
  have hhid := show Shut _ from And.intro r1 (And.intro r2 hBw)
  clear hr0 hr1 hr2 hb1 hb2 hb3 hg1 hg2 r2 hB3 hA1
  go_wp2_with ((with_reducible refine at_store_row (ints (perm rotS p)) r1 ?_ ?_ ?_ ?_ ?_ ?_); (rw [ints_size, hlq]; kernel_rfl); (rw [ints_size, ints_size, hlq, List.length_replicate]); exact ints_one _; rfl; rfl)
  refine leaves_cons (f := 27) (args := #[.pointer (some ⟨w.heap.size + 1, 0, none⟩), .pointer (some ⟨w.heap.size + 1 + 1, 0, none⟩)]) (by simp) (by simp [go_sem]) ?_
  refine (ri_idle _ _ _).mono ?_
  rintro e u' w'' ⟨rfl, rfl, rfl⟩
  obtain ⟨r1, r2, hBw⟩ := hhid.out
  have s2 := (setRow_other w3 (w.heap.size + 1) (w.heap.size + 1 + 1) (ints (perm rotS p)) (by omega)).trans r2
  have t2 := heap_setCell_same _ (w.heap.size + 1 + 1) 0 _ _ (.bool true) s2
  have t1 := (heap_setCell_other (w3.setRow (w.heap.size + 1) (ints (perm rotS p))) ⟨w.heap.size + 1 + 1, 0, none⟩ (w.heap.size + 1) (.bool true) (by simp)).trans (setRow_heap w3 (w.heap.size + 1) (ints (List.replicate 64 0)) (ints (perm rotS p)) _ _ r1)
  exact ⟨_, results_cell2 rfl _ _ (w.heap.size + 1) 22 (ints (perm rotS p)) (0, 0) _ _ rfl t1 Tryd.underlying22 rfl (by rw [ints_size, hlq]; kernel_rfl) (w.heap.size + 1 + 1) (.bool true) rfl (cell_of_row _ _ 0 _ _ _ t2) Tryd.underlying4 rfl, rfl, (below_setRow hBw (by omega) _).setCell (p := ⟨w.heap.size + 1 + 1, 0, none⟩) (by first | (simp; done) | (simp; omega)) _⟩
end Go.Proofs.YtndnmepapmnnlaaDoor
