/- spec.Takes: what a move takes, and where. For every position of pieces from 0 to 12, and moves of squares. -/
import Derived.Test.YtplkcmlpomjojaaDoorMd
import Derived.Test.YtplkcmlpomjojaaDoorPa
namespace Go.Proofs.YtplkcmlpomjojaaDoor
open Go Go.RowKit
set_option maxHeartbeats 4000000
set_option linter.unusedSimpArgs false
set_option linter.unusedVariables false
set_option maxRecDepth 100000

/-- The squares of a move are squares, and what a pawn becomes is a piece. -/
structure MvOk (m : Mv) : Prop where
  f0 : 0 ≤ m.fr
  f1 : m.fr ≤ 63
  t0 : 0 ≤ m.to
  t1 : m.to ≤ 63
  p0 : 0 ≤ m.pr
  p1 : m.pr ≤ 6
def passing (p : List Int) (m : Mv) : Bool := decide (kindOf (pcAt p m.fr) = 6) && decide (m.fr % 8 ≠ m.to % 8)
def tkIs (p : List Int) (m : Mv) : Bool := decide (pcAt p m.to ≠ 0) || passing p m
def tkSq (p : List Int) (m : Mv) : Int := if pcAt p m.to ≠ 0 then m.to else if passing p m = true then atSq (m.to % 8) (m.fr / 8) else -1
theorem mv_range (m : Mv) (hm : MvOk m) : 0 ≤ m.to % 8 ∧ m.to % 8 ≤ 7 ∧ 0 ≤ m.fr / 8 ∧ m.fr / 8 ≤ 7 := by
  have := hm.f0
  have := hm.f1
  have := hm.t0
  omega
theorem tk_ret {p : List Int} {m : Mv} {a : Int} {b : Bool} (h1 : tkSq p m = a) (h2 : tkIs p m = b) : Ending.returned (.tuple #[.int .i64 a, .bool b]) = .returned (.tuple #[.int .i64 (tkSq p m), .bool (tkIs p m)]) := by rw [h1, h2]
theorem tk_takes (p : List Int) (hp : Pos p) (m : Mv) (hm : MvOk m) (w : World) :
    Calls Tryd.prog 46 #[.agg (ints p), .agg (ints (mvL m))] w fun e w' => e = .returned (.tuple #[.int .i64 (tkSq p m), .bool (tkIs p m)]) ∧ Below w.heap.size w w' := by
  have hrow : PosAt p w.heap.size ((w.alloc (.cells (ints p) 24)).alloc (.cells (ints (mvL m)) 52)) := (heap_alloc_old _ _ (by simp)).trans (heap_alloc_new w _)
  have hmv := heap_alloc_new (w.alloc (.cells (ints p) 24)) (.cells (ints (mvL m)) 52)
  rw [World.size_alloc] at hmv
  have hBW : Below w.heap.size w ((w.alloc (.cells (ints p) 24)).alloc (.cells (ints (mvL m)) 52)) := ((Below.refl _ _).alloc (Nat.le_refl _) _).alloc (by simp) _
  obtain ⟨f0, f1, t0, t1, -, -⟩ := hm
  go_enter Tryd.func46, Tryd.ntmps46
  go_upto_region 1 with (fail)
  generalize (w.alloc (.cells (ints p) 24)).alloc (.cells (ints (mvL m)) 52) = W at *
  have cf : W.cell? ⟨w.heap.size + 1, 0, none⟩ = some (.int .i64 m.fr) := row_cell hmv 0 (by simp [mvL])
  have co : W.cell? ⟨w.heap.size + 1, 1, none⟩ = some (.int .i64 m.to) := row_cell hmv 1 (by simp [mvL])
  have cx : W.cell? ⟨w.heap.size, m.fr.toNat, none⟩ = some (.int .i64 (pcAt p m.fr)) := row_cell hrow _ (by rw [hp.len]; omega)
  have cy : W.cell? ⟨w.heap.size, m.to.toNat, none⟩ = some (.int .i64 (pcAt p m.to)) := row_cell hrow _ (by rw [hp.len]; omega)
  have x0 : 0 ≤ pcAt p m.fr := hp.lo _ (by omega)
  have x1 : pcAt p m.fr ≤ 12 := hp.hi _ (by omega)
  have hS : tkSq p m = if pcAt p m.to ≠ 0 then m.to else if passing p m = true then atSq (m.to % 8) (m.fr / 8) else -1 := rfl
  have hI : tkIs p m = (decide (pcAt p m.to ≠ 0) || passing p m) := rfl
  have hPa : passing p m = (decide (kindOf (pcAt p m.fr) = 6) && decide (m.fr % 8 ≠ m.to % 8)) := rfl
  have hids := show Shut _ from And.intro hS (And.intro hI (And.intro hPa hBW))
  clear hS hI hPa hBW hrow hmv
  generalize pcAt p m.fr = x at *
  generalize pcAt p m.to = y at *
  generalize m.fr = a at *
  generalize m.to = b at *
  by_cases hy : y = 0
  · subst hy
    by_cases hk : kindOf x = 6
    · have hkb : (kindOf x == 6) = true := by simpa using hk
      have hks := show Shut _ from hk
      clear hk
      by_cases hf : a % 8 = b % 8
      · have hfb : (a % 8 != b % 8) = false := by simpa using hf
        have hfs := show Shut _ from hf
        clear hf
        go_wp2_with fail
        go_quiet (first | (go_at_call 24; refine quiet' (po_kindOf _ _ (by omega))) | (go_at_call 32; refine quiet' (po_file _ _ (by omega) (by omega))))
        go_wp2_with fail
        go_ret2
        have hPf : passing p m = false := by rw [hids.out.2.2.1]; simp [hfs.out]
        exact ⟨tk_ret (by rw [hids.out.1, hPf]; simp) (by rw [hids.out.2.1, hPf]; simp), below_drewN hids.out.2.2.2 _⟩
      · have hfb : (a % 8 != b % 8) = true := by simpa using hf
        have hfs := show Shut _ from hf
        clear hf
        go_wp2_with fail
        go_quiet (first | (go_at_call 24; refine quiet' (po_kindOf _ _ (by omega))) | (go_at_call 32; refine quiet' (po_file _ _ (by omega) (by omega))))
        go_wp2_with fail
        go_quiet (first | (go_at_call 32; refine quiet_add_left (po_file _ _ (by omega) (by omega))) | (go_at_call 25; refine quiet_add_left (po_rank _ _ (by omega) (by omega))) | (go_at_call 41; refine quiet_add_left (po_at _ _ _ (by omega) (by omega) (by omega) (by omega))))
        go_wp2_with fail
        go_ret2
        have hPf : passing p m = true := by have h1 : ¬ a % 8 = b % 8 := hfs.out; rw [hids.out.2.2.1, hks.out]; simp [h1]
        exact ⟨tk_ret (by rw [hids.out.1, hPf]; simp) (by rw [hids.out.2.1, hPf]; simp), below_drewN (below_drewN hids.out.2.2.2 _) _⟩
    · have hkb : (kindOf x == 6) = false := by simpa using hk
      have hks := show Shut _ from hk
      clear hk
      go_wp2_with fail
      go_quiet (first | (go_at_call 24; refine quiet' (po_kindOf _ _ (by omega))) | (go_at_call 32; refine quiet' (po_file _ _ (by omega) (by omega))))
      go_wp2_with fail
      go_ret2
      have hPf : passing p m = false := by have h1 : ¬ kindOf x = 6 := hks.out; rw [hids.out.2.2.1]; simp [h1]
      exact ⟨tk_ret (by rw [hids.out.1, hPf]; simp) (by rw [hids.out.2.1, hPf]; simp), below_drewN hids.out.2.2.2 _⟩
  · have hyb : (y != 0) = true := by simpa using hy
    have hys := show Shut _ from hy
    clear hy
    go_wp2_with fail
    go_ret2
    exact ⟨tk_ret (by rw [hids.out.1, if_pos hys.out]) (by have h1 : ¬ y = 0 := hys.out; rw [hids.out.2.1]; simp [h1]), hids.out.2.2.2⟩
end Go.Proofs.YtplkcmlpomjojaaDoor
