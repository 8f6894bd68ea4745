/- impl.plain: the walk. For every sound position. -/
import Derived.Test.YtplkcmlpomjojaaGreatDoorPn
import Derived.StillTailTactics
namespace Go.Proofs.YtplkcmlpomjojaaGreatDoor
open Go Go.RowKit
set_option maxHeartbeats 8000000
set_option linter.unusedSimpArgs false
set_option linter.unusedVariables false
set_option maxRecDepth 100000

/-- What the engine's position of p holds, whatever moves are cached. -/
structure EngCells (p : List Int) (tn pg bg : Nat) (w : World) : Prop where
  c0 : w.cell? ⟨pg, 0, none⟩ = some (.pointer (some ⟨bg, 0, none⟩))
  c1 : w.cell? ⟨pg, 1, none⟩ = some (.string (casText (p.getD 65 0)))
  c3 : w.cell? ⟨pg, 3, none⟩ = some (.int .i64 (p.getD 67 0))
  c4 : w.cell? ⟨pg, 4, none⟩ = some (.int .i64 (p.getD 68 0))
  c5 : w.cell? ⟨pg, 5, none⟩ = some (.int .i8 ((tn : Int) + 1))
  c6 : w.cell? ⟨pg, 6, none⟩ = some (.int .i8 (p.getD 66 0))
  bd : w.heap[bg]? = some (.cells (brd p) 125 (0, 0))
  lt : pg < w.heap.size
theorem EngPos.cells {p : List Int} {tn pg bg : Nat} {w : World} (h : EngPos p tn pg bg w) : EngCells p tn pg bg w :=
  ⟨cell_of_row w pg 0 _ _ _ h.ps, cell_of_row w pg 1 _ _ _ h.ps, cell_of_row w pg 3 _ _ _ h.ps, cell_of_row w pg 4 _ _ _ h.ps, cell_of_row w pg 5 _ _ _ h.ps, cell_of_row w pg 6 _ _ _ h.ps, h.bd, (Array.getElem?_eq_some_iff.1 h.ps).1⟩
theorem EngCells.below {p : List Int} {tn pg bg : Nat} {w w' : World} {B : Nat} (h : EngCells p tn pg bg w) (hb : Below B w w') (hB : w.heap.size ≤ B) : EngCells p tn pg bg w' :=
  have hb' := hb.mono hB
  ⟨(hb'.cell (p := ⟨pg, 0, none⟩) h.lt).trans h.c0, (hb'.cell (p := ⟨pg, 1, none⟩) h.lt).trans h.c1, (hb'.cell (p := ⟨pg, 3, none⟩) h.lt).trans h.c3, (hb'.cell (p := ⟨pg, 4, none⟩) h.lt).trans h.c4, (hb'.cell (p := ⟨pg, 5, none⟩) h.lt).trans h.c5, (hb'.cell (p := ⟨pg, 6, none⟩) h.lt).trans h.c6, (hb'.block bg (Array.getElem?_eq_some_iff.1 h.bd).1).trans h.bd, Nat.lt_of_lt_of_le h.lt hb'.size⟩
theorem pm_board (g : Nat) (v : Value) (w : World) (hc : w.cell? ⟨g, 0, none⟩ = some v) :
    Calls Tryz.prog 73 #[.pointer (some ⟨g, 0, none⟩)] w fun e w' => e = .returned v ∧ w = w' := by
  go_enter Tryz.func73, Tryz.ntmps73
  go_wp2
  go_ret
  exact ⟨rfl, rfl⟩
theorem pm_ep (g : Nat) (v : Value) (w : World) (hc : w.cell? ⟨g, 6, none⟩ = some v) :
    Calls Tryz.prog 74 #[.pointer (some ⟨g, 0, none⟩)] w fun e w' => e = .returned v ∧ w = w' := by
  go_enter Tryz.func74, Tryz.ntmps74
  go_wp2
  go_ret
  exact ⟨rfl, rfl⟩
theorem pm_half (g : Nat) (v : Value) (w : World) (hc : w.cell? ⟨g, 3, none⟩ = some v) :
    Calls Tryz.prog 75 #[.pointer (some ⟨g, 0, none⟩)] w fun e w' => e = .returned v ∧ w = w' := by
  go_enter Tryz.func75, Tryz.ntmps75
  go_wp2
  go_ret
  exact ⟨rfl, rfl⟩
theorem pm_count (g : Nat) (v : Value) (w : World) (hc : w.cell? ⟨g, 4, none⟩ = some v) :
    Calls Tryz.prog 76 #[.pointer (some ⟨g, 0, none⟩)] w fun e w' => e = .returned v ∧ w = w' := by
  go_enter Tryz.func76, Tryz.ntmps76
  go_wp2
  go_ret
  exact ⟨rfl, rfl⟩
theorem pm_cas (g : Nat) (v : Value) (w : World) (hc : w.cell? ⟨g, 1, none⟩ = some v) :
    Calls Tryz.prog 78 #[.pointer (some ⟨g, 0, none⟩)] w fun e w' => e = .returned v ∧ w = w' := by
  go_enter Tryz.func78, Tryz.ntmps78
  go_wp2
  go_ret
  exact ⟨rfl, rfl⟩
theorem pm_plainB (p : List Int) (hp : Pos p) (g : Nat) (w : World) (hA : IntSl w 1 .i8 allL) (hg : w.heap[g]? = some (.cells (brd p) 125 (0, 0))) :
    Calls Tryz.prog 72 #[.pointer (some ⟨g, 0, none⟩)] w fun e' w' => e' = .returned (.agg (ints (p.take 64))) ∧ Below w.heap.size w w' := by
  rw [← brd_take] at hg
  exact bq_plain (p.take 64) hp.board g w hA hg
/-- The rights below the bit k. -/
def lowB (ca : Int) (k : Nat) : Int := ca % 2 ^ k
theorem lowB_all : ∀ a < 16, ∀ k < 4, lowB ((a : Nat) : Int) (k + 1) = (if decide (a / 2 ^ k % 2 = 1) = true then bits .or .i64 (lowB ((a : Nat) : Int) k) (2 ^ k) else lowB ((a : Nat) : Int) k) := by decide +kernel
def colC : Array Value := #[.int .i8 1, .int .i8 1, .int .i8 2, .int .i8 2]
theorem pm_plain (p : List Int) (tn : Nat) (hs : Sound p tn) (pg bg : Nat) (w : World) (hE : EngCells p tn pg bg w) (hA : IntSl w 1 .i8 allL) :
    Calls Tryz.prog 34 #[.pointer (some ⟨pg, 0, none⟩)] w fun e w' => e = .returned (.agg (ints p)) ∧ Below w.heap.size w w' := by
  have hl := hs.pos.len
  have hl64 : (p.take 64).length = 64 := by simp [hl]
  have hBW : Below w.heap.size w (w.alloc (.cells (ints (List.replicate 69 0)) 24)) := (Below.refl _ _).alloc (Nat.le_refl _) _
  have hr0 : (w.alloc (.cells (ints (List.replicate 69 0)) 24)).heap[w.heap.size]? = some (.cells (ints (List.replicate 69 0)) 24 (0, 0)) := heap_alloc_new w _
  have hE1 := hE.below hBW (Nat.le_refl _)
  have hA1 := hA.below hBW
  have e0 := lay (pm_board pg _ _ hE1.c0)
  have e1 := lay (pm_plainB p hs.pos bg _ hA1 hE1.bd)
  have hBs := lay hBW
  have hr0s := lay hr0
  have g1 : Shut (∀ V, Below w.heap.size w V → V.cell? ⟨pg, 1, none⟩ = some (.string (casText (p.getD 65 0)))) := fun V hV => (hE.below hV (Nat.le_refl _)).c1
  have g3 : Shut (∀ V, Below w.heap.size w V → V.cell? ⟨pg, 3, none⟩ = some (.int .i64 (p.getD 67 0))) := fun V hV => (hE.below hV (Nat.le_refl _)).c3
  have g4 : Shut (∀ V, Below w.heap.size w V → V.cell? ⟨pg, 4, none⟩ = some (.int .i64 (p.getD 68 0))) := fun V hV => (hE.below hV (Nat.le_refl _)).c4
  have g5 : Shut (∀ V, Below w.heap.size w V → V.cell? ⟨pg, 5, none⟩ = some (.int .i8 ((tn : Int) + 1))) := fun V hV => (hE.below hV (Nat.le_refl _)).c5
  have g6 : Shut (∀ V, Below w.heap.size w V → V.cell? ⟨pg, 6, none⟩ = some (.int .i8 (p.getD 66 0))) := fun V hV => (hE.below hV (Nat.le_refl _)).c6
  obtain ⟨ep0, ep1⟩ := hs.ep
  have hw64 : IntKind.i64.wrap (p.getD 66 0) = p.getD 66 0 := by rw [IntKind.wrap_i64]; omega
  have hone := hs.one
  have ca0 := hs.ca0
  have ca1 := hs.ca1
  have hall : Shut (plN (p.take 64) (tn : Int) (p.getD 65 0) (p.getD 66 0) (p.getD 67 0) (p.getD 68 0) = p) := by
    have h := plN_all p hl
    rw [hs.turn] at h
    exact h
  clear hE hA hs hBW hE1 hA1 hr0
  generalize p.getD 65 0 = ca at *
  generalize p.getD 66 0 = ep at *
  generalize p.getD 67 0 = ha at *
  generalize p.getD 68 0 = fu at *
  generalize p.take 64 = bd at *
  go_enter Tryz.func34, Tryz.ntmps34
  go_wp2_with fail
  refine e0.out.mono ?_
  rintro q0 w0 ⟨rfl, rfl⟩
  go_wp2_with fail
  refine e1.out.mono ?_
  rintro q1 w1 ⟨rfl, hb1⟩
  have hB1 := hBs.out.trans (hb1.mono hBs.out.size)
  have r1 := lay ((hb1.block w.heap.size (by simp)).trans hr0s.out)
  have c6 := g6.out w1 hB1
  have c3 := g3.out w1 hB1
  have c4 := g4.out w1 hB1
  have hB1s := lay hB1
  have hsz1 : w.heap.size < w1.heap.size := by have := hb1.size; simp at this; omega
  clear hb1 hB1
  go_wp2_with (first
    | (go_at_call 74; refine (pm_ep pg _ _ c6).mono ?_; rintro e2 w2 ⟨rfl, rfl⟩)
    | (go_at_call 75; refine (pm_half pg _ _ c3).mono ?_; rintro e2 w2 ⟨rfl, rfl⟩)
    | (go_at_call 76; refine (pm_count pg _ _ c4).mono ?_; rintro e2 w2 ⟨rfl, rfl⟩)
    | ((with_reducible refine at_build_plain bd ep ha fu hl64 ?_ ?_ ?_ ?_ ?_); rfl; rfl; rfl; rfl)
    | ((with_reducible refine at_new_row (ints (plN bd 0 0 ep ha fu)) ?_ ?_ ?_ ?_ ?_ ?_); (rw [ints_size, plN_len _ _ _ _ _ _ hl64]; kernel_rfl); (rw [ints_size, plN_len _ _ _ _ _ _ hl64]; kernel_rfl); exact ints_one _; rfl; rfl; intro W4 rG4 hC4))
  have hB4 := lay (hB1s.out.trans (hC4.mono hB1s.out.size))
  have c5 := g5.out W4 hB4.out
  have r4 := lay ((hC4.block w.heap.size hsz1).trans r1.out)
  have rN4 := lay rG4
  have hz4 : w1.heap.size < W4.heap.size := (Array.getElem?_eq_some_iff.1 rG4).1
  have k64 : W4.cell? ⟨w1.heap.size, 64, none⟩ = some (.int .i64 ((plN bd 0 0 ep ha fu).getD 64 0)) := row_cell rG4 64 (by rw [plN_len _ _ _ _ _ _ hl64]; omega)
  have f64 := frozen_of_row W4 w1.heap.size 64 _ _ rG4
  clear c3 c4 c6 rG4 hC4
  refine (da_turn pg _ _ c5).mono ?_
  rintro e5 w5 ⟨rfl, rfl⟩
  have hpc := lay (fun (k : Nat) hk (a b : Int) ha hb V => cc_right ca ca0 ca1 k hk a b ha hb V)
  rcases (show tn = 0 ∨ tn = 1 by omega) with rfl | rfl
  · go_upto_region 4 with (fail)
    have rN5 : W4.heap[w1.heap.size]? = some (.cells (ints (plN bd ((0 : Nat) : Int) 0 ep ha fu)) 24 (0, 0)) := rN4.out
    have r5 : W4.heap[w.heap.size]? = some (.cells (ints (List.replicate 69 0)) 24 (0, 0)) := r4.out
    have hB5 : Below w.heap.size w W4 := hB4.out
    clear k64 f64 c5 r4 rN4 hB4
    generalize W4 = W5 at *
    have hzN : w1.heap.size < W5.heap.size := (Array.getElem?_eq_some_iff.1 rN5).1
    have rC : (W5.alloc (.cells colC 72)).heap[W5.heap.size]? = some (.cells colC 72 (0, 0)) := heap_alloc_new W5 _
    have rN6 : (W5.alloc (.cells colC 72)).heap[w1.heap.size]? = some (.cells (ints (plN bd ((0 : Nat) : Int) (lowB ca 0) ep ha fu)) 24 (0, 0)) := by
      have e : lowB ca 0 = 0 := by unfold lowB; simp
      rw [e]
      exact heap_keep rN5
    have r6 : (W5.alloc (.cells colC 72)).heap[w.heap.size]? = some (.cells (ints (List.replicate 69 0)) 24 (0, 0)) := heap_keep r5
    have hB6 : Below w.heap.size w (W5.alloc (.cells colC 72)) := hB5.alloc (by omega) _
    have rCs := lay rC
    have rN6s := lay rN6
    have r6s := lay r6
    have hB6s := lay hB6
    have hlow : Shut (∀ k, k < 4 → lowB ca (k + 1) = (if decide (ca.toNat / 2 ^ k % 2 = 1) = true then bits .or .i64 (lowB ca k) (2 ^ k) else lowB ca k)) := by
      intro k hk
      obtain ⟨n, rfl⟩ := Int.eq_ofNat_of_zero_le ca0
      exact lowB_all n (by omega) k hk
    clear rN5 r5 hB5 rC rN6 r6 hB6
    go_wp2_with fail
    change Code.wp _ _ _ _ (W5.alloc (.cells colC 72))
    generalize W5.alloc (.cells colC 72) = W6 at *
    go_loopw [23] (fun i wr => ∃ k : Nat, k ≤ 4 ∧ i = .int .i64 (k : Int) ∧ wr.heap[w1.heap.size]? = some (.cells (ints (plN bd ((0 : Nat) : Int) (lowB ca k) ep ha fu)) 24 (0, 0)) ∧ wr.heap[w.heap.size]? = some (.cells (ints (List.replicate 69 0)) 24 (0, 0)) ∧ wr.heap[W5.heap.size]? = some (.cells colC 72 (0, 0)) ∧ Below w.heap.size w wr) (fun i _ => (4 - intOf i).toNat)
    case atStart => exact ⟨0, by omega, rfl, rN6s.out, r6s.out, rCs.out, hB6s.out⟩
    case round =>
      obtain ⟨k, hk, rfl, rN, r0, rC, hbr⟩ := hrel
      have zN : w1.heap.size < wr.heap.size := (Array.getElem?_eq_some_iff.1 rN).1
      have z0 : w.heap.size < wr.heap.size := (Array.getElem?_eq_some_iff.1 r0).1
      have zC : W5.heap.size < wr.heap.size := (Array.getElem?_eq_some_iff.1 rC).1
      by_cases hlt : k < 4
      · have hlk := lay (hlow.out k hlt)
        have hck := lay (fun (a b : Int) ha hb V => hpc.out k hlt a b ha hb V)
        have c1 := g1.out wr hbr
        have hcc : ∀ j, j < 4 → wr.cell? ⟨W5.heap.size, j, none⟩ = colC[j]? := fun j hj => cell_of_row wr W5.heap.size j _ _ _ rC
        have hcs := lay hcc
        have hbs := lay hbr
        have rNs := lay rN
        have r0s := lay r0
        have rCs2 := lay rC
        clear hcc hbr rN r0 rC
        rcases (show k = 0 ∨ k = 1 ∨ k = 2 ∨ k = 3 by omega) with rfl | rfl | rfl | rfl
        · have hcol : wr.cell? ⟨W5.heap.size, 0, none⟩ = some (.int .i8 1) := hcs.out 0 (by decide)
          go_wp2_with (first
            | (go_at_call 78; refine (pm_cas pg _ _ c1).mono ?_; rintro e6 w6 ⟨rfl, rfl⟩))
          refine (hck.out 1 1 (by decide) (by decide) _).mono ?_
          rintro e7 w7 ⟨rfl, hb7⟩
          have rN7 := (hb7.block w1.heap.size zN).trans rNs.out
          have r07 := (hb7.block w.heap.size z0).trans r0s.out
          have rC7 := (hb7.block W5.heap.size zC).trans rCs2.out
          have hB7 := lay (hbs.out.trans (hb7.mono hbs.out.size))
          have k65 : w7.cell? ⟨w1.heap.size, 65, none⟩ = some (.int .i64 (lowB ca 0)) := (row_cell rN7 65 (by rw [plN_len _ _ _ _ _ _ hl64]; omega)).trans (by rw [plN_65 _ _ _ _ _ _ hl64])
          have f65 := frozen_of_row w7 w1.heap.size 65 _ _ rN7
          have hset := row_set rN7 65 (bits .or .i64 (lowB ca 0) 1)
          rw [plN_set65 _ _ _ _ _ _ _ hl64] at hset
          have hall2 := lay (And.intro rN7 (And.intro r07 (And.intro rC7 hset)))
          clear rN7 r07 rC7 hset hb7 c1 hcol
          cases hbit : decide (ca.toNat / 2 ^ 0 % 2 = 1) with
          | true =>
            have hlk2 : Shut (lowB ca (0 + 1) = bits .or .i64 (lowB ca 0) 1) := by
              have h := hlk.out
              rw [hbit, if_pos rfl] at h
              exact h
            clear hbit
            generalize lowB ca 0 = cl at *
            go_wp2_with fail
            go_region
            go_wp2_with fail
            all_goals (
              go_roundw
              case rel =>
                have R : ∃ k' : Nat, k' ≤ 4 ∧ Value.int .i64 1 = .int .i64 (k' : Int) ∧ ((w7.setCell ⟨w1.heap.size, 65, none⟩ (.int .i64 (bits .or .i64 cl 1))).drew).heap[w1.heap.size]? = some (.cells (ints (plN bd ((0 : Nat) : Int) (lowB ca k') ep ha fu)) 24 (0, 0)) ∧ ((w7.setCell ⟨w1.heap.size, 65, none⟩ (.int .i64 (bits .or .i64 cl 1))).drew).heap[w.heap.size]? = some (.cells (ints (List.replicate 69 0)) 24 (0, 0)) ∧ ((w7.setCell ⟨w1.heap.size, 65, none⟩ (.int .i64 (bits .or .i64 cl 1))).drew).heap[W5.heap.size]? = some (.cells colC 72 (0, 0)) ∧ Below w.heap.size w ((w7.setCell ⟨w1.heap.size, 65, none⟩ (.int .i64 (bits .or .i64 cl 1))).drew) :=
                  ⟨1, by omega, rfl, by rw [hlk2.out]; exact hall2.out.2.2.2, (heap_setCell_other _ _ _ _ (by show w.heap.size ≠ w1.heap.size; omega)).trans hall2.out.2.1, (heap_setCell_other _ _ _ _ (by show W5.heap.size ≠ w1.heap.size; omega)).trans hall2.out.2.2.1, (hB7.out.setCell (p := ⟨w1.heap.size, 65, none⟩) (by show w.heap.size ≤ w1.heap.size; omega) _).drew⟩
                first | exact R | ((repeat apply Exists.intro); exact ⟨R, rfl⟩)
              case measure => simp [intOf])
          | false =>
            have hlk2 : Shut (lowB ca (0 + 1) = lowB ca 0) := by
              have h := hlk.out
              rw [hbit, if_neg (by decide)] at h
              exact h
            clear hbit
            go_wp2_with fail
            go_roundw
            case rel =>
              have R : ∃ k' : Nat, k' ≤ 4 ∧ Value.int .i64 1 = .int .i64 (k' : Int) ∧ w7.heap[w1.heap.size]? = some (.cells (ints (plN bd ((0 : Nat) : Int) (lowB ca k') ep ha fu)) 24 (0, 0)) ∧ w7.heap[w.heap.size]? = some (.cells (ints (List.replicate 69 0)) 24 (0, 0)) ∧ w7.heap[W5.heap.size]? = some (.cells colC 72 (0, 0)) ∧ Below w.heap.size w w7 := ⟨1, by omega, rfl, by rw [hlk2.out]; exact hall2.out.1, hall2.out.2.1, hall2.out.2.2.1, hB7.out⟩
              first | exact R | ((repeat apply Exists.intro); exact ⟨R, rfl⟩)
            case measure => simp [intOf]
        · have hcol : wr.cell? ⟨W5.heap.size, 1, none⟩ = some (.int .i8 1) := hcs.out 1 (by decide)
          go_wp2_with (first
            | (go_at_call 78; refine (pm_cas pg _ _ c1).mono ?_; rintro e6 w6 ⟨rfl, rfl⟩))
          refine (hck.out 1 2 (by decide) (by decide) _).mono ?_
          rintro e7 w7 ⟨rfl, hb7⟩
          have rN7 := (hb7.block w1.heap.size zN).trans rNs.out
          have r07 := (hb7.block w.heap.size z0).trans r0s.out
          have rC7 := (hb7.block W5.heap.size zC).trans rCs2.out
          have hB7 := lay (hbs.out.trans (hb7.mono hbs.out.size))
          have k65 : w7.cell? ⟨w1.heap.size, 65, none⟩ = some (.int .i64 (lowB ca 1)) := (row_cell rN7 65 (by rw [plN_len _ _ _ _ _ _ hl64]; omega)).trans (by rw [plN_65 _ _ _ _ _ _ hl64])
          have f65 := frozen_of_row w7 w1.heap.size 65 _ _ rN7
          have hset := row_set rN7 65 (bits .or .i64 (lowB ca 1) 2)
          rw [plN_set65 _ _ _ _ _ _ _ hl64] at hset
          have hall2 := lay (And.intro rN7 (And.intro r07 (And.intro rC7 hset)))
          clear rN7 r07 rC7 hset hb7 c1 hcol
          cases hbit : decide (ca.toNat / 2 ^ 1 % 2 = 1) with
          | true =>
            have hlk2 : Shut (lowB ca (1 + 1) = bits .or .i64 (lowB ca 1) 2) := by
              have h := hlk.out
              rw [hbit, if_pos rfl] at h
              exact h
            clear hbit
            generalize lowB ca 1 = cl at *
            go_wp2_with fail
            go_region
            go_wp2_with fail
            all_goals (
              go_roundw
              case rel =>
                have R : ∃ k' : Nat, k' ≤ 4 ∧ Value.int .i64 2 = .int .i64 (k' : Int) ∧ ((w7.setCell ⟨w1.heap.size, 65, none⟩ (.int .i64 (bits .or .i64 cl 2))).drew).heap[w1.heap.size]? = some (.cells (ints (plN bd ((0 : Nat) : Int) (lowB ca k') ep ha fu)) 24 (0, 0)) ∧ ((w7.setCell ⟨w1.heap.size, 65, none⟩ (.int .i64 (bits .or .i64 cl 2))).drew).heap[w.heap.size]? = some (.cells (ints (List.replicate 69 0)) 24 (0, 0)) ∧ ((w7.setCell ⟨w1.heap.size, 65, none⟩ (.int .i64 (bits .or .i64 cl 2))).drew).heap[W5.heap.size]? = some (.cells colC 72 (0, 0)) ∧ Below w.heap.size w ((w7.setCell ⟨w1.heap.size, 65, none⟩ (.int .i64 (bits .or .i64 cl 2))).drew) :=
                  ⟨2, by omega, rfl, by rw [hlk2.out]; exact hall2.out.2.2.2, (heap_setCell_other _ _ _ _ (by show w.heap.size ≠ w1.heap.size; omega)).trans hall2.out.2.1, (heap_setCell_other _ _ _ _ (by show W5.heap.size ≠ w1.heap.size; omega)).trans hall2.out.2.2.1, (hB7.out.setCell (p := ⟨w1.heap.size, 65, none⟩) (by show w.heap.size ≤ w1.heap.size; omega) _).drew⟩
                first | exact R | ((repeat apply Exists.intro); exact ⟨R, rfl⟩)
              case measure => simp [intOf])
          | false =>
            have hlk2 : Shut (lowB ca (1 + 1) = lowB ca 1) := by
              have h := hlk.out
              rw [hbit, if_neg (by decide)] at h
              exact h
            clear hbit
            go_wp2_with fail
            go_roundw
            case rel =>
              have R : ∃ k' : Nat, k' ≤ 4 ∧ Value.int .i64 2 = .int .i64 (k' : Int) ∧ w7.heap[w1.heap.size]? = some (.cells (ints (plN bd ((0 : Nat) : Int) (lowB ca k') ep ha fu)) 24 (0, 0)) ∧ w7.heap[w.heap.size]? = some (.cells (ints (List.replicate 69 0)) 24 (0, 0)) ∧ w7.heap[W5.heap.size]? = some (.cells colC 72 (0, 0)) ∧ Below w.heap.size w w7 := ⟨2, by omega, rfl, by rw [hlk2.out]; exact hall2.out.1, hall2.out.2.1, hall2.out.2.2.1, hB7.out⟩
              first | exact R | ((repeat apply Exists.intro); exact ⟨R, rfl⟩)
            case measure => simp [intOf]
        · have hcol : wr.cell? ⟨W5.heap.size, 2, none⟩ = some (.int .i8 2) := hcs.out 2 (by decide)
          go_wp2_with (first
            | (go_at_call 78; refine (pm_cas pg _ _ c1).mono ?_; rintro e6 w6 ⟨rfl, rfl⟩))
          refine (hck.out 2 1 (by decide) (by decide) _).mono ?_
          rintro e7 w7 ⟨rfl, hb7⟩
          have rN7 := (hb7.block w1.heap.size zN).trans rNs.out
          have r07 := (hb7.block w.heap.size z0).trans r0s.out
          have rC7 := (hb7.block W5.heap.size zC).trans rCs2.out
          have hB7 := lay (hbs.out.trans (hb7.mono hbs.out.size))
          have k65 : w7.cell? ⟨w1.heap.size, 65, none⟩ = some (.int .i64 (lowB ca 2)) := (row_cell rN7 65 (by rw [plN_len _ _ _ _ _ _ hl64]; omega)).trans (by rw [plN_65 _ _ _ _ _ _ hl64])
          have f65 := frozen_of_row w7 w1.heap.size 65 _ _ rN7
          have hset := row_set rN7 65 (bits .or .i64 (lowB ca 2) 4)
          rw [plN_set65 _ _ _ _ _ _ _ hl64] at hset
          have hall2 := lay (And.intro rN7 (And.intro r07 (And.intro rC7 hset)))
          clear rN7 r07 rC7 hset hb7 c1 hcol
          cases hbit : decide (ca.toNat / 2 ^ 2 % 2 = 1) with
          | true =>
            have hlk2 : Shut (lowB ca (2 + 1) = bits .or .i64 (lowB ca 2) 4) := by
              have h := hlk.out
              rw [hbit, if_pos rfl] at h
              exact h
            clear hbit
            generalize lowB ca 2 = cl at *
            go_wp2_with fail
            go_region
            go_wp2_with fail
            all_goals (
              go_roundw
              case rel =>
                have R : ∃ k' : Nat, k' ≤ 4 ∧ Value.int .i64 3 = .int .i64 (k' : Int) ∧ ((w7.setCell ⟨w1.heap.size, 65, none⟩ (.int .i64 (bits .or .i64 cl 4))).drew).heap[w1.heap.size]? = some (.cells (ints (plN bd ((0 : Nat) : Int) (lowB ca k') ep ha fu)) 24 (0, 0)) ∧ ((w7.setCell ⟨w1.heap.size, 65, none⟩ (.int .i64 (bits .or .i64 cl 4))).drew).heap[w.heap.size]? = some (.cells (ints (List.replicate 69 0)) 24 (0, 0)) ∧ ((w7.setCell ⟨w1.heap.size, 65, none⟩ (.int .i64 (bits .or .i64 cl 4))).drew).heap[W5.heap.size]? = some (.cells colC 72 (0, 0)) ∧ Below w.heap.size w ((w7.setCell ⟨w1.heap.size, 65, none⟩ (.int .i64 (bits .or .i64 cl 4))).drew) :=
                  ⟨3, by omega, rfl, by rw [hlk2.out]; exact hall2.out.2.2.2, (heap_setCell_other _ _ _ _ (by show w.heap.size ≠ w1.heap.size; omega)).trans hall2.out.2.1, (heap_setCell_other _ _ _ _ (by show W5.heap.size ≠ w1.heap.size; omega)).trans hall2.out.2.2.1, (hB7.out.setCell (p := ⟨w1.heap.size, 65, none⟩) (by show w.heap.size ≤ w1.heap.size; omega) _).drew⟩
                first | exact R | ((repeat apply Exists.intro); exact ⟨R, rfl⟩)
              case measure => simp [intOf])
          | false =>
            have hlk2 : Shut (lowB ca (2 + 1) = lowB ca 2) := by
              have h := hlk.out
              rw [hbit, if_neg (by decide)] at h
              exact h
            clear hbit
            go_wp2_with fail
            go_roundw
            case rel =>
              have R : ∃ k' : Nat, k' ≤ 4 ∧ Value.int .i64 3 = .int .i64 (k' : Int) ∧ w7.heap[w1.heap.size]? = some (.cells (ints (plN bd ((0 : Nat) : Int) (lowB ca k') ep ha fu)) 24 (0, 0)) ∧ w7.heap[w.heap.size]? = some (.cells (ints (List.replicate 69 0)) 24 (0, 0)) ∧ w7.heap[W5.heap.size]? = some (.cells colC 72 (0, 0)) ∧ Below w.heap.size w w7 := ⟨3, by omega, rfl, by rw [hlk2.out]; exact hall2.out.1, hall2.out.2.1, hall2.out.2.2.1, hB7.out⟩
              first | exact R | ((repeat apply Exists.intro); exact ⟨R, rfl⟩)
            case measure => simp [intOf]
        · have hcol : wr.cell? ⟨W5.heap.size, 3, none⟩ = some (.int .i8 2) := hcs.out 3 (by decide)
          go_wp2_with (first
            | (go_at_call 78; refine (pm_cas pg _ _ c1).mono ?_; rintro e6 w6 ⟨rfl, rfl⟩))
          refine (hck.out 2 2 (by decide) (by decide) _).mono ?_
          rintro e7 w7 ⟨rfl, hb7⟩
          have rN7 := (hb7.block w1.heap.size zN).trans rNs.out
          have r07 := (hb7.block w.heap.size z0).trans r0s.out
          have rC7 := (hb7.block W5.heap.size zC).trans rCs2.out
          have hB7 := lay (hbs.out.trans (hb7.mono hbs.out.size))
          have k65 : w7.cell? ⟨w1.heap.size, 65, none⟩ = some (.int .i64 (lowB ca 3)) := (row_cell rN7 65 (by rw [plN_len _ _ _ _ _ _ hl64]; omega)).trans (by rw [plN_65 _ _ _ _ _ _ hl64])
          have f65 := frozen_of_row w7 w1.heap.size 65 _ _ rN7
          have hset := row_set rN7 65 (bits .or .i64 (lowB ca 3) 8)
          rw [plN_set65 _ _ _ _ _ _ _ hl64] at hset
          have hall2 := lay (And.intro rN7 (And.intro r07 (And.intro rC7 hset)))
          clear rN7 r07 rC7 hset hb7 c1 hcol
          cases hbit : decide (ca.toNat / 2 ^ 3 % 2 = 1) with
          | true =>
            have hlk2 : Shut (lowB ca (3 + 1) = bits .or .i64 (lowB ca 3) 8) := by
              have h := hlk.out
              rw [hbit, if_pos rfl] at h
              exact h
            clear hbit
            generalize lowB ca 3 = cl at *
            go_wp2_with fail
            go_region
            go_wp2_with fail
            all_goals (
              go_roundw
              case rel =>
                have R : ∃ k' : Nat, k' ≤ 4 ∧ Value.int .i64 4 = .int .i64 (k' : Int) ∧ ((w7.setCell ⟨w1.heap.size, 65, none⟩ (.int .i64 (bits .or .i64 cl 8))).drew).heap[w1.heap.size]? = some (.cells (ints (plN bd ((0 : Nat) : Int) (lowB ca k') ep ha fu)) 24 (0, 0)) ∧ ((w7.setCell ⟨w1.heap.size, 65, none⟩ (.int .i64 (bits .or .i64 cl 8))).drew).heap[w.heap.size]? = some (.cells (ints (List.replicate 69 0)) 24 (0, 0)) ∧ ((w7.setCell ⟨w1.heap.size, 65, none⟩ (.int .i64 (bits .or .i64 cl 8))).drew).heap[W5.heap.size]? = some (.cells colC 72 (0, 0)) ∧ Below w.heap.size w ((w7.setCell ⟨w1.heap.size, 65, none⟩ (.int .i64 (bits .or .i64 cl 8))).drew) :=
                  ⟨4, by omega, rfl, by rw [hlk2.out]; exact hall2.out.2.2.2, (heap_setCell_other _ _ _ _ (by show w.heap.size ≠ w1.heap.size; omega)).trans hall2.out.2.1, (heap_setCell_other _ _ _ _ (by show W5.heap.size ≠ w1.heap.size; omega)).trans hall2.out.2.2.1, (hB7.out.setCell (p := ⟨w1.heap.size, 65, none⟩) (by show w.heap.size ≤ w1.heap.size; omega) _).drew⟩
                first | exact R | ((repeat apply Exists.intro); exact ⟨R, rfl⟩)
              case measure => simp [intOf])
          | false =>
            have hlk2 : Shut (lowB ca (3 + 1) = lowB ca 3) := by
              have h := hlk.out
              rw [hbit, if_neg (by decide)] at h
              exact h
            clear hbit
            go_wp2_with fail
            go_roundw
            case rel =>
              have R : ∃ k' : Nat, k' ≤ 4 ∧ Value.int .i64 4 = .int .i64 (k' : Int) ∧ w7.heap[w1.heap.size]? = some (.cells (ints (plN bd ((0 : Nat) : Int) (lowB ca k') ep ha fu)) 24 (0, 0)) ∧ w7.heap[w.heap.size]? = some (.cells (ints (List.replicate 69 0)) 24 (0, 0)) ∧ w7.heap[W5.heap.size]? = some (.cells colC 72 (0, 0)) ∧ Below w.heap.size w w7 := ⟨4, by omega, rfl, by rw [hlk2.out]; exact hall2.out.1, hall2.out.2.1, hall2.out.2.2.1, hB7.out⟩
              first | exact R | ((repeat apply Exists.intro); exact ⟨R, rfl⟩)
            case measure => simp [intOf]
      · obtain rfl : k = 4 := by omega
        have e4 : lowB ca 4 = ca := by unfold lowB; simp; omega
        rw [e4, hall.out] at rN
        have hbs := lay hbr
        have r0s := lay r0
        clear hbr rC
        go_wp2_with (first
          | ((with_reducible refine at_load_row rN Tryz.underlying24 rfl ?_ rfl ?_); (rw [ints_size, hl]; kernel_rfl))
          | ((with_reducible refine at_store_row (ints p) r0s.out ?_ ?_ ?_ ?_ ?_ ?_); (rw [ints_size, hl]; kernel_rfl); (rw [ints_size, ints_size, hl, List.length_replicate]); exact ints_one p; rfl; rfl))
        (try simp only [Exit.inBlock, Exit.then])
        exact bodyPost_ret (results_cell1 rfl _ _ w.heap.size 24 (ints p) (0, 0) _ rfl (setRow_heap _ _ _ (ints p) _ _ r0s.out) Tryz.underlying24 rfl (by rw [ints_size, hl]; kernel_rfl)) rfl ⟨rfl, below_setRow hbs.out (Nat.le_refl _) _⟩
  · go_upto_region 4 with (fail)
    have rN5 : (W4.setCell ⟨w1.heap.size, 64, none⟩ (.int .i64 1)).heap[w1.heap.size]? = some (.cells (ints (plN bd ((1 : Nat) : Int) 0 ep ha fu)) 24 (0, 0)) := by
      have h := row_set rN4.out 64 1
      rw [plN_set64 _ _ _ _ _ _ _ hl64] at h
      exact h
    have r5 : (W4.setCell ⟨w1.heap.size, 64, none⟩ (.int .i64 1)).heap[w.heap.size]? = some (.cells (ints (List.replicate 69 0)) 24 (0, 0)) := (heap_setCell_other _ _ _ _ (by show w.heap.size ≠ w1.heap.size; omega)).trans r4.out
    have hB5 : Below w.heap.size w (W4.setCell ⟨w1.heap.size, 64, none⟩ (.int .i64 1)) := hB4.out.setCell (p := ⟨w1.heap.size, 64, none⟩) (by show w.heap.size ≤ w1.heap.size; omega) _
    clear k64 f64 c5 r4 rN4 hB4 hz4
    generalize W4.setCell ⟨w1.heap.size, 64, none⟩ (.int .i64 1) = W5 at *
    have hzN : w1.heap.size < W5.heap.size := (Array.getElem?_eq_some_iff.1 rN5).1
    have rC : (W5.alloc (.cells colC 72)).heap[W5.heap.size]? = some (.cells colC 72 (0, 0)) := heap_alloc_new W5 _
    have rN6 : (W5.alloc (.cells colC 72)).heap[w1.heap.size]? = some (.cells (ints (plN bd ((1 : Nat) : Int) (lowB ca 0) ep ha fu)) 24 (0, 0)) := by
      have e : lowB ca 0 = 0 := by unfold lowB; simp
      rw [e]
      exact heap_keep rN5
    have r6 : (W5.alloc (.cells colC 72)).heap[w.heap.size]? = some (.cells (ints (List.replicate 69 0)) 24 (0, 0)) := heap_keep r5
    have hB6 : Below w.heap.size w (W5.alloc (.cells colC 72)) := hB5.alloc (by omega) _
    have rCs := lay rC
    have rN6s := lay rN6
    have r6s := lay r6
    have hB6s := lay hB6
    have hlow : Shut (∀ k, k < 4 → lowB ca (k + 1) = (if decide (ca.toNat / 2 ^ k % 2 = 1) = true then bits .or .i64 (lowB ca k) (2 ^ k) else lowB ca k)) := by
      intro k hk
      obtain ⟨n, rfl⟩ := Int.eq_ofNat_of_zero_le ca0
      exact lowB_all n (by omega) k hk
    clear rN5 r5 hB5 rC rN6 r6 hB6
    go_wp2_with fail
    change Code.wp _ _ _ _ (W5.alloc (.cells colC 72))
    generalize W5.alloc (.cells colC 72) = W6 at *
    go_loopw [23] (fun i wr => ∃ k : Nat, k ≤ 4 ∧ i = .int .i64 (k : Int) ∧ wr.heap[w1.heap.size]? = some (.cells (ints (plN bd ((1 : Nat) : Int) (lowB ca k) ep ha fu)) 24 (0, 0)) ∧ wr.heap[w.heap.size]? = some (.cells (ints (List.replicate 69 0)) 24 (0, 0)) ∧ wr.heap[W5.heap.size]? = some (.cells colC 72 (0, 0)) ∧ Below w.heap.size w wr) (fun i _ => (4 - intOf i).toNat)
    case atStart => exact ⟨0, by omega, rfl, rN6s.out, r6s.out, rCs.out, hB6s.out⟩
    case round =>
      obtain ⟨k, hk, rfl, rN, r0, rC, hbr⟩ := hrel
      have zN : w1.heap.size < wr.heap.size := (Array.getElem?_eq_some_iff.1 rN).1
      have z0 : w.heap.size < wr.heap.size := (Array.getElem?_eq_some_iff.1 r0).1
      have zC : W5.heap.size < wr.heap.size := (Array.getElem?_eq_some_iff.1 rC).1
      by_cases hlt : k < 4
      · have hlk := lay (hlow.out k hlt)
        have hck := lay (fun (a b : Int) ha hb V => hpc.out k hlt a b ha hb V)
        have c1 := g1.out wr hbr
        have hcc : ∀ j, j < 4 → wr.cell? ⟨W5.heap.size, j, none⟩ = colC[j]? := fun j hj => cell_of_row wr W5.heap.size j _ _ _ rC
        have hcs := lay hcc
        have hbs := lay hbr
        have rNs := lay rN
        have r0s := lay r0
        have rCs2 := lay rC
        clear hcc hbr rN r0 rC
        rcases (show k = 0 ∨ k = 1 ∨ k = 2 ∨ k = 3 by omega) with rfl | rfl | rfl | rfl
        · have hcol : wr.cell? ⟨W5.heap.size, 0, none⟩ = some (.int .i8 1) := hcs.out 0 (by decide)
          go_wp2_with (first
            | (go_at_call 78; refine (pm_cas pg _ _ c1).mono ?_; rintro e6 w6 ⟨rfl, rfl⟩))
          refine (hck.out 1 1 (by decide) (by decide) _).mono ?_
          rintro e7 w7 ⟨rfl, hb7⟩
          have rN7 := (hb7.block w1.heap.size zN).trans rNs.out
          have r07 := (hb7.block w.heap.size z0).trans r0s.out
          have rC7 := (hb7.block W5.heap.size zC).trans rCs2.out
          have hB7 := lay (hbs.out.trans (hb7.mono hbs.out.size))
          have k65 : w7.cell? ⟨w1.heap.size, 65, none⟩ = some (.int .i64 (lowB ca 0)) := (row_cell rN7 65 (by rw [plN_len _ _ _ _ _ _ hl64]; omega)).trans (by rw [plN_65 _ _ _ _ _ _ hl64])
          have f65 := frozen_of_row w7 w1.heap.size 65 _ _ rN7
          have hset := row_set rN7 65 (bits .or .i64 (lowB ca 0) 1)
          rw [plN_set65 _ _ _ _ _ _ _ hl64] at hset
          have hall2 := lay (And.intro rN7 (And.intro r07 (And.intro rC7 hset)))
          clear rN7 r07 rC7 hset hb7 c1 hcol
          cases hbit : decide (ca.toNat / 2 ^ 0 % 2 = 1) with
          | true =>
            have hlk2 : Shut (lowB ca (0 + 1) = bits .or .i64 (lowB ca 0) 1) := by
              have h := hlk.out
              rw [hbit, if_pos rfl] at h
              exact h
            clear hbit
            generalize lowB ca 0 = cl at *
            go_wp2_with fail
            go_region
            go_wp2_with fail
            all_goals (
              go_roundw
              case rel =>
                have R : ∃ k' : Nat, k' ≤ 4 ∧ Value.int .i64 1 = .int .i64 (k' : Int) ∧ ((w7.setCell ⟨w1.heap.size, 65, none⟩ (.int .i64 (bits .or .i64 cl 1))).drew).heap[w1.heap.size]? = some (.cells (ints (plN bd ((1 : Nat) : Int) (lowB ca k') ep ha fu)) 24 (0, 0)) ∧ ((w7.setCell ⟨w1.heap.size, 65, none⟩ (.int .i64 (bits .or .i64 cl 1))).drew).heap[w.heap.size]? = some (.cells (ints (List.replicate 69 0)) 24 (0, 0)) ∧ ((w7.setCell ⟨w1.heap.size, 65, none⟩ (.int .i64 (bits .or .i64 cl 1))).drew).heap[W5.heap.size]? = some (.cells colC 72 (0, 0)) ∧ Below w.heap.size w ((w7.setCell ⟨w1.heap.size, 65, none⟩ (.int .i64 (bits .or .i64 cl 1))).drew) :=
                  ⟨1, by omega, rfl, by rw [hlk2.out]; exact hall2.out.2.2.2, (heap_setCell_other _ _ _ _ (by show w.heap.size ≠ w1.heap.size; omega)).trans hall2.out.2.1, (heap_setCell_other _ _ _ _ (by show W5.heap.size ≠ w1.heap.size; omega)).trans hall2.out.2.2.1, (hB7.out.setCell (p := ⟨w1.heap.size, 65, none⟩) (by show w.heap.size ≤ w1.heap.size; omega) _).drew⟩
                first | exact R | ((repeat apply Exists.intro); exact ⟨R, rfl⟩)
              case measure => simp [intOf])
          | false =>
            have hlk2 : Shut (lowB ca (0 + 1) = lowB ca 0) := by
              have h := hlk.out
              rw [hbit, if_neg (by decide)] at h
              exact h
            clear hbit
            go_wp2_with fail
            go_roundw
            case rel =>
              have R : ∃ k' : Nat, k' ≤ 4 ∧ Value.int .i64 1 = .int .i64 (k' : Int) ∧ w7.heap[w1.heap.size]? = some (.cells (ints (plN bd ((1 : Nat) : Int) (lowB ca k') ep ha fu)) 24 (0, 0)) ∧ w7.heap[w.heap.size]? = some (.cells (ints (List.replicate 69 0)) 24 (0, 0)) ∧ w7.heap[W5.heap.size]? = some (.cells colC 72 (0, 0)) ∧ Below w.heap.size w w7 := ⟨1, by omega, rfl, by rw [hlk2.out]; exact hall2.out.1, hall2.out.2.1, hall2.out.2.2.1, hB7.out⟩
              first | exact R | ((repeat apply Exists.intro); exact ⟨R, rfl⟩)
            case measure => simp [intOf]
        · have hcol : wr.cell? ⟨W5.heap.size, 1, none⟩ = some (.int .i8 1) := hcs.out 1 (by decide)
          go_wp2_with (first
            | (go_at_call 78; refine (pm_cas pg _ _ c1).mono ?_; rintro e6 w6 ⟨rfl, rfl⟩))
          refine (hck.out 1 2 (by decide) (by decide) _).mono ?_
          rintro e7 w7 ⟨rfl, hb7⟩
          have rN7 := (hb7.block w1.heap.size zN).trans rNs.out
          have r07 := (hb7.block w.heap.size z0).trans r0s.out
          have rC7 := (hb7.block W5.heap.size zC).trans rCs2.out
          have hB7 := lay (hbs.out.trans (hb7.mono hbs.out.size))
          have k65 : w7.cell? ⟨w1.heap.size, 65, none⟩ = some (.int .i64 (lowB ca 1)) := (row_cell rN7 65 (by rw [plN_len _ _ _ _ _ _ hl64]; omega)).trans (by rw [plN_65 _ _ _ _ _ _ hl64])
          have f65 := frozen_of_row w7 w1.heap.size 65 _ _ rN7
          have hset := row_set rN7 65 (bits .or .i64 (lowB ca 1) 2)
          rw [plN_set65 _ _ _ _ _ _ _ hl64] at hset
          have hall2 := lay (And.intro rN7 (And.intro r07 (And.intro rC7 hset)))
          clear rN7 r07 rC7 hset hb7 c1 hcol
          cases hbit : decide (ca.toNat / 2 ^ 1 % 2 = 1) with
          | true =>
            have hlk2 : Shut (lowB ca (1 + 1) = bits .or .i64 (lowB ca 1) 2) := by
              have h := hlk.out
              rw [hbit, if_pos rfl] at h
              exact h
            clear hbit
            generalize lowB ca 1 = cl at *
            go_wp2_with fail
            go_region
            go_wp2_with fail
            all_goals (
              go_roundw
              case rel =>
                have R : ∃ k' : Nat, k' ≤ 4 ∧ Value.int .i64 2 = .int .i64 (k' : Int) ∧ ((w7.setCell ⟨w1.heap.size, 65, none⟩ (.int .i64 (bits .or .i64 cl 2))).drew).heap[w1.heap.size]? = some (.cells (ints (plN bd ((1 : Nat) : Int) (lowB ca k') ep ha fu)) 24 (0, 0)) ∧ ((w7.setCell ⟨w1.heap.size, 65, none⟩ (.int .i64 (bits .or .i64 cl 2))).drew).heap[w.heap.size]? = some (.cells (ints (List.replicate 69 0)) 24 (0, 0)) ∧ ((w7.setCell ⟨w1.heap.size, 65, none⟩ (.int .i64 (bits .or .i64 cl 2))).drew).heap[W5.heap.size]? = some (.cells colC 72 (0, 0)) ∧ Below w.heap.size w ((w7.setCell ⟨w1.heap.size, 65, none⟩ (.int .i64 (bits .or .i64 cl 2))).drew) :=
                  ⟨2, by omega, rfl, by rw [hlk2.out]; exact hall2.out.2.2.2, (heap_setCell_other _ _ _ _ (by show w.heap.size ≠ w1.heap.size; omega)).trans hall2.out.2.1, (heap_setCell_other _ _ _ _ (by show W5.heap.size ≠ w1.heap.size; omega)).trans hall2.out.2.2.1, (hB7.out.setCell (p := ⟨w1.heap.size, 65, none⟩) (by show w.heap.size ≤ w1.heap.size; omega) _).drew⟩
                first | exact R | ((repeat apply Exists.intro); exact ⟨R, rfl⟩)
              case measure => simp [intOf])
          | false =>
            have hlk2 : Shut (lowB ca (1 + 1) = lowB ca 1) := by
              have h := hlk.out
              rw [hbit, if_neg (by decide)] at h
              exact h
            clear hbit
            go_wp2_with fail
            go_roundw
            case rel =>
              have R : ∃ k' : Nat, k' ≤ 4 ∧ Value.int .i64 2 = .int .i64 (k' : Int) ∧ w7.heap[w1.heap.size]? = some (.cells (ints (plN bd ((1 : Nat) : Int) (lowB ca k') ep ha fu)) 24 (0, 0)) ∧ w7.heap[w.heap.size]? = some (.cells (ints (List.replicate 69 0)) 24 (0, 0)) ∧ w7.heap[W5.heap.size]? = some (.cells colC 72 (0, 0)) ∧ Below w.heap.size w w7 := ⟨2, by omega, rfl, by rw [hlk2.out]; exact hall2.out.1, hall2.out.2.1, hall2.out.2.2.1, hB7.out⟩
              first | exact R | ((repeat apply Exists.intro); exact ⟨R, rfl⟩)
            case measure => simp [intOf]
        · have hcol : wr.cell? ⟨W5.heap.size, 2, none⟩ = some (.int .i8 2) := hcs.out 2 (by decide)
          go_wp2_with (first
            | (go_at_call 78; refine (pm_cas pg _ _ c1).mono ?_; rintro e6 w6 ⟨rfl, rfl⟩))
          refine (hck.out 2 1 (by decide) (by decide) _).mono ?_
          rintro e7 w7 ⟨rfl, hb7⟩
          have rN7 := (hb7.block w1.heap.size zN).trans rNs.out
          have r07 := (hb7.block w.heap.size z0).trans r0s.out
          have rC7 := (hb7.block W5.heap.size zC).trans rCs2.out
          have hB7 := lay (hbs.out.trans (hb7.mono hbs.out.size))
          have k65 : w7.cell? ⟨w1.heap.size, 65, none⟩ = some (.int .i64 (lowB ca 2)) := (row_cell rN7 65 (by rw [plN_len _ _ _ _ _ _ hl64]; omega)).trans (by rw [plN_65 _ _ _ _ _ _ hl64])
          have f65 := frozen_of_row w7 w1.heap.size 65 _ _ rN7
          have hset := row_set rN7 65 (bits .or .i64 (lowB ca 2) 4)
          rw [plN_set65 _ _ _ _ _ _ _ hl64] at hset
          have hall2 := lay (And.intro rN7 (And.intro r07 (And.intro rC7 hset)))
          clear rN7 r07 rC7 hset hb7 c1 hcol
          cases hbit : decide (ca.toNat / 2 ^ 2 % 2 = 1) with
          | true =>
            have hlk2 : Shut (lowB ca (2 + 1) = bits .or .i64 (lowB ca 2) 4) := by
              have h := hlk.out
              rw [hbit, if_pos rfl] at h
              exact h
            clear hbit
            generalize lowB ca 2 = cl at *
            go_wp2_with fail
            go_region
            go_wp2_with fail
            all_goals (
              go_roundw
              case rel =>
                have R : ∃ k' : Nat, k' ≤ 4 ∧ Value.int .i64 3 = .int .i64 (k' : Int) ∧ ((w7.setCell ⟨w1.heap.size, 65, none⟩ (.int .i64 (bits .or .i64 cl 4))).drew).heap[w1.heap.size]? = some (.cells (ints (plN bd ((1 : Nat) : Int) (lowB ca k') ep ha fu)) 24 (0, 0)) ∧ ((w7.setCell ⟨w1.heap.size, 65, none⟩ (.int .i64 (bits .or .i64 cl 4))).drew).heap[w.heap.size]? = some (.cells (ints (List.replicate 69 0)) 24 (0, 0)) ∧ ((w7.setCell ⟨w1.heap.size, 65, none⟩ (.int .i64 (bits .or .i64 cl 4))).drew).heap[W5.heap.size]? = some (.cells colC 72 (0, 0)) ∧ Below w.heap.size w ((w7.setCell ⟨w1.heap.size, 65, none⟩ (.int .i64 (bits .or .i64 cl 4))).drew) :=
                  ⟨3, by omega, rfl, by rw [hlk2.out]; exact hall2.out.2.2.2, (heap_setCell_other _ _ _ _ (by show w.heap.size ≠ w1.heap.size; omega)).trans hall2.out.2.1, (heap_setCell_other _ _ _ _ (by show W5.heap.size ≠ w1.heap.size; omega)).trans hall2.out.2.2.1, (hB7.out.setCell (p := ⟨w1.heap.size, 65, none⟩) (by show w.heap.size ≤ w1.heap.size; omega) _).drew⟩
                first | exact R | ((repeat apply Exists.intro); exact ⟨R, rfl⟩)
              case measure => simp [intOf])
          | false =>
            have hlk2 : Shut (lowB ca (2 + 1) = lowB ca 2) := by
              have h := hlk.out
              rw [hbit, if_neg (by decide)] at h
              exact h
            clear hbit
            go_wp2_with fail
            go_roundw
            case rel =>
              have R : ∃ k' : Nat, k' ≤ 4 ∧ Value.int .i64 3 = .int .i64 (k' : Int) ∧ w7.heap[w1.heap.size]? = some (.cells (ints (plN bd ((1 : Nat) : Int) (lowB ca k') ep ha fu)) 24 (0, 0)) ∧ w7.heap[w.heap.size]? = some (.cells (ints (List.replicate 69 0)) 24 (0, 0)) ∧ w7.heap[W5.heap.size]? = some (.cells colC 72 (0, 0)) ∧ Below w.heap.size w w7 := ⟨3, by omega, rfl, by rw [hlk2.out]; exact hall2.out.1, hall2.out.2.1, hall2.out.2.2.1, hB7.out⟩
              first | exact R | ((repeat apply Exists.intro); exact ⟨R, rfl⟩)
            case measure => simp [intOf]
        · have hcol : wr.cell? ⟨W5.heap.size, 3, none⟩ = some (.int .i8 2) := hcs.out 3 (by decide)
          go_wp2_with (first
            | (go_at_call 78; refine (pm_cas pg _ _ c1).mono ?_; rintro e6 w6 ⟨rfl, rfl⟩))
          refine (hck.out 2 2 (by decide) (by decide) _).mono ?_
          rintro e7 w7 ⟨rfl, hb7⟩
          have rN7 := (hb7.block w1.heap.size zN).trans rNs.out
          have r07 := (hb7.block w.heap.size z0).trans r0s.out
          have rC7 := (hb7.block W5.heap.size zC).trans rCs2.out
          have hB7 := lay (hbs.out.trans (hb7.mono hbs.out.size))
          have k65 : w7.cell? ⟨w1.heap.size, 65, none⟩ = some (.int .i64 (lowB ca 3)) := (row_cell rN7 65 (by rw [plN_len _ _ _ _ _ _ hl64]; omega)).trans (by rw [plN_65 _ _ _ _ _ _ hl64])
          have f65 := frozen_of_row w7 w1.heap.size 65 _ _ rN7
          have hset := row_set rN7 65 (bits .or .i64 (lowB ca 3) 8)
          rw [plN_set65 _ _ _ _ _ _ _ hl64] at hset
          have hall2 := lay (And.intro rN7 (And.intro r07 (And.intro rC7 hset)))
          clear rN7 r07 rC7 hset hb7 c1 hcol
          cases hbit : decide (ca.toNat / 2 ^ 3 % 2 = 1) with
          | true =>
            have hlk2 : Shut (lowB ca (3 + 1) = bits .or .i64 (lowB ca 3) 8) := by
              have h := hlk.out
              rw [hbit, if_pos rfl] at h
              exact h
            clear hbit
            generalize lowB ca 3 = cl at *
            go_wp2_with fail
            go_region
            go_wp2_with fail
            all_goals (
              go_roundw
              case rel =>
                have R : ∃ k' : Nat, k' ≤ 4 ∧ Value.int .i64 4 = .int .i64 (k' : Int) ∧ ((w7.setCell ⟨w1.heap.size, 65, none⟩ (.int .i64 (bits .or .i64 cl 8))).drew).heap[w1.heap.size]? = some (.cells (ints (plN bd ((1 : Nat) : Int) (lowB ca k') ep ha fu)) 24 (0, 0)) ∧ ((w7.setCell ⟨w1.heap.size, 65, none⟩ (.int .i64 (bits .or .i64 cl 8))).drew).heap[w.heap.size]? = some (.cells (ints (List.replicate 69 0)) 24 (0, 0)) ∧ ((w7.setCell ⟨w1.heap.size, 65, none⟩ (.int .i64 (bits .or .i64 cl 8))).drew).heap[W5.heap.size]? = some (.cells colC 72 (0, 0)) ∧ Below w.heap.size w ((w7.setCell ⟨w1.heap.size, 65, none⟩ (.int .i64 (bits .or .i64 cl 8))).drew) :=
                  ⟨4, by omega, rfl, by rw [hlk2.out]; exact hall2.out.2.2.2, (heap_setCell_other _ _ _ _ (by show w.heap.size ≠ w1.heap.size; omega)).trans hall2.out.2.1, (heap_setCell_other _ _ _ _ (by show W5.heap.size ≠ w1.heap.size; omega)).trans hall2.out.2.2.1, (hB7.out.setCell (p := ⟨w1.heap.size, 65, none⟩) (by show w.heap.size ≤ w1.heap.size; omega) _).drew⟩
                first | exact R | ((repeat apply Exists.intro); exact ⟨R, rfl⟩)
              case measure => simp [intOf])
          | false =>
            have hlk2 : Shut (lowB ca (3 + 1) = lowB ca 3) := by
              have h := hlk.out
              rw [hbit, if_neg (by decide)] at h
              exact h
            clear hbit
            go_wp2_with fail
            go_roundw
            case rel =>
              have R : ∃ k' : Nat, k' ≤ 4 ∧ Value.int .i64 4 = .int .i64 (k' : Int) ∧ w7.heap[w1.heap.size]? = some (.cells (ints (plN bd ((1 : Nat) : Int) (lowB ca k') ep ha fu)) 24 (0, 0)) ∧ w7.heap[w.heap.size]? = some (.cells (ints (List.replicate 69 0)) 24 (0, 0)) ∧ w7.heap[W5.heap.size]? = some (.cells colC 72 (0, 0)) ∧ Below w.heap.size w w7 := ⟨4, by omega, rfl, by rw [hlk2.out]; exact hall2.out.1, hall2.out.2.1, hall2.out.2.2.1, hB7.out⟩
              first | exact R | ((repeat apply Exists.intro); exact ⟨R, rfl⟩)
            case measure => simp [intOf]
      · obtain rfl : k = 4 := by omega
        have e4 : lowB ca 4 = ca := by unfold lowB; simp; omega
        rw [e4, hall.out] at rN
        have hbs := lay hbr
        have r0s := lay r0
        clear hbr rC
        go_wp2_with (first
          | ((with_reducible refine at_load_row rN Tryz.underlying24 rfl ?_ rfl ?_); (rw [ints_size, hl]; kernel_rfl))
          | ((with_reducible refine at_store_row (ints p) r0s.out ?_ ?_ ?_ ?_ ?_ ?_); (rw [ints_size, hl]; kernel_rfl); (rw [ints_size, ints_size, hl, List.length_replicate]); exact ints_one p; rfl; rfl))
        (try simp only [Exit.inBlock, Exit.then])
        exact bodyPost_ret (results_cell1 rfl _ _ w.heap.size 24 (ints p) (0, 0) _ rfl (setRow_heap _ _ _ (ints p) _ _ r0s.out) Tryz.underlying24 rfl (by rw [ints_size, hl]; kernel_rfl)) rfl ⟨rfl, below_setRow hbs.out (Nat.le_refl _) _⟩
end Go.Proofs.YtplkcmlpomjojaaGreatDoor
