/- A board of the package read back: its 64 squares, and the map of its squares with pieces. For every board of pieces from 0 to 12.
impl.plain: a position of the engine as plain data. For every sound position.
impl.plain: the walk. For every sound position.
Two positions beside each other: what '==' gives. -/
import Derived.StillTailTactics
import Derived.Test.YtnjdgooljnbebaaGreatDoorGa
import Derived.Test.YtnjdgooljnbebaaGreatDoorGi
namespace Go.Proofs.YtnjdgooljnbebaaGreatDoor
open Go Go.RowKit
set_option maxHeartbeats 2000000
set_option linter.unusedSimpArgs false
set_option linter.unusedVariables false
set_option maxRecDepth 100000

/-- The first k squares are there. -/
def outTo (p : List Int) (k : Nat) : List Int := (List.range 64).map fun i => if i < k then p.getD i 0 else 0
theorem outTo_len (p : List Int) (k : Nat) : (outTo p k).length = 64 := by simp [outTo]
theorem outTo_zero (p : List Int) : outTo p 0 = List.replicate 64 0 := by
  unfold outTo
  simp only [Nat.not_lt_zero, if_false]
  rfl
theorem outTo_set (p : List Int) (k : Nat) (h : k < 64) : (outTo p k).set k (p.getD k 0) = outTo p (k + 1) := by
  apply List.ext_getElem
  · simp [outTo]
  · intro i h1 h2
    rw [List.getElem_set]
    by_cases e : k = i
    · subst e; simp [outTo]
    · rw [if_neg e]
      simp only [outTo, List.getElem_map, List.getElem_range]
      by_cases c : i < k
      · rw [if_pos c, if_pos (by omega)]
      · rw [if_neg c, if_neg (by omega)]
theorem outTo_all (p : List Int) (h : p.length = 64) : outTo p 64 = p := by
  apply List.ext_getElem
  · simp [outTo, h]
  · intro i h1 h2
    have : i < 64 := by omega
    simp [outTo, this, h2]
theorem bq_plain (p : List Int) (hp : Brd p) (g : Nat) (w : World) (hA : IntSl w 0 .i8 allL) (hg : w.heap[g]? = some (.cells (brd p) 144 (0, 0))) :
    Calls Tryz.prog 72 #[.pointer (some ⟨g, 0, none⟩)] w fun e' w' => e' = .returned (.agg (ints p)) ∧ Below w.heap.size w w' := by
  have hglt : g < w.heap.size := (Array.getElem?_eq_some_iff.1 hg).1
  go_enter Tryz.func72, Tryz.ntmps72
  go_wp2_with fail
  change Code.wp _ _ _ _ ((w.alloc (.cells (ints (List.replicate 64 0)) 22)).alloc (.cells (ints (List.replicate 64 0)) 22))
  have hr1 : ((w.alloc (.cells (ints (List.replicate 64 0)) 22)).alloc (.cells (ints (List.replicate 64 0)) 22)).heap[w.heap.size + 1]? = some (.cells (ints (outTo p 0)) 22 (0, 0)) := by rw [outTo_zero]; exact heap_alloc2_new w _ _
  have hr0 : ((w.alloc (.cells (ints (List.replicate 64 0)) 22)).alloc (.cells (ints (List.replicate 64 0)) 22)).heap[w.heap.size]? = some (.cells (ints (List.replicate 64 0)) 22 (0, 0)) := heap_alloc2_old w _ _
  have hBW : Below w.heap.size w ((w.alloc (.cells (ints (List.replicate 64 0)) 22)).alloc (.cells (ints (List.replicate 64 0)) 22)) := ((Below.refl _ _).alloc (Nat.le_refl _) _).alloc (by simp) _
  generalize ((w.alloc (.cells (ints (List.replicate 64 0)) 22)).alloc (.cells (ints (List.replicate 64 0)) 22)) = W at *
  go_loopw [5] (fun i wr => ∃ k : Nat, k ≤ 64 ∧ i = .int .i64 (k : Int) ∧ wr.heap[w.heap.size + 1]? = some (.cells (ints (outTo p k)) 22 (0, 0)) ∧ wr.heap[w.heap.size]? = some (.cells (ints (List.replicate 64 0)) 22 (0, 0)) ∧ Below w.heap.size w wr) (fun i _ => (64 - intOf i).toNat)
  case atStart => exact ⟨0, by omega, rfl, hr1, hr0, hBW⟩
  case round =>
    obtain ⟨k, hk, rfl, hrr, hr0r, hbel⟩ := hrel
    clear hr1 hr0 hBW
    by_cases hlt : k < 64
    · have hlo := hp.lo k
      have hhi := hp.hi k
      have hgr := (hbel.block g hglt).trans hg
      have hc := row_cell hrr k (by rw [outTo_len]; exact hlt)
      have hf := frozen_of_row wr (w.heap.size + 1) k _ _ hrr
      have hpc := bo_piece p _ _ _ _ _ g (k : Int) wr (hA.below hbel) hgr (by omega) (by omega) (by simpa using hlo) (by simpa using hhi)
      simp only [Int.toNat_natCast] at hpc
      have hset := row_set hrr k (p.getD k 0)
      rw [outTo_set p k hlt] at hset
      have hoth := (heap_setCell_other wr ⟨w.heap.size + 1, k, none⟩ w.heap.size (.int .i64 (p.getD k 0)) (by simp)).trans hr0r
      have hbs := hbel.setCell (p := ⟨w.heap.size + 1, k, none⟩) (by simp) (.int .i64 (p.getD k 0))
      have hhid : True → _ := fun _ => And.intro hset (And.intro hoth hbs)
      clear hset hoth hbs hgr hrr hr0r
      generalize p.getD k 0 = v at *
      go_wp2_with (go_at_call 83; refine hpc.mono ?_; rintro e1 w1 ⟨rfl, rfl⟩)
      go_roundw
      case rel => exact ⟨k + 1, by omega, by go_num, hhid trivial⟩
      case measure => simp [intOf]; omega
    · obtain rfl : k = 64 := by omega
      rw [outTo_all p hp.len] at hrr
      go_wp2_with (first
        | (with_reducible refine at_load_row hrr Tryz.underlying22 rfl ?_ rfl ?_; (rw [ints_size, hp.len]; kernel_rfl))
        | ((with_reducible refine at_store_row (ints p) hr0r ?_ ?_ ?_ ?_ ?_ ?_); (rw [ints_size, hp.len]; kernel_rfl); (rw [ints_size, ints_size, hp.len, List.length_replicate]); exact ints_one p; rfl; rfl))
      (try simp only [Exit.inBlock, Exit.then])
      exact bodyPost_ret (results_cell1 rfl _ _ w.heap.size 22 (ints p) (0, 0) _ rfl (setRow_heap _ _ _ (ints p) _ _ hr0r) Tryz.underlying22 rfl (by rw [ints_size, hp.len]; kernel_rfl)) rfl ⟨rfl, below_setRow hbel (Nat.le_refl _) _⟩
end Go.Proofs.YtnjdgooljnbebaaGreatDoor
namespace Go.Proofs.YtnjdgooljnbebaaGreatDoor
open Go Go.RowKit
set_option maxHeartbeats 8000000
set_option linter.unusedSimpArgs false
set_option linter.unusedVariables false
set_option maxRecDepth 100000

def plN (b : List Int) (t c e h f : Int) : List Int := b ++ [t, c, e, h, f]
theorem plN_len (b : List Int) (t c e h f : Int) (hl : b.length = 64) : (plN b t c e h f).length = 69 := by simp [plN, hl]
theorem plN_65 (b : List Int) (t c e h f : Int) (hl : b.length = 64) : (plN b t c e h f).getD 65 0 = c := by
  unfold plN
  rw [List.getD_eq_getElem?_getD, List.getElem?_append_right (by omega)]
  simp [hl]
theorem plN_set64 (b : List Int) (t c e h f t' : Int) (hl : b.length = 64) : (plN b t c e h f).set 64 t' = plN b t' c e h f := by
  unfold plN
  rw [List.set_append_right _ _ (by omega)]
  simp [hl]
theorem plN_set65 (b : List Int) (t c e h f c' : Int) (hl : b.length = 64) : (plN b t c e h f).set 65 c' = plN b t c' e h f := by
  unfold plN
  rw [List.set_append_right _ _ (by omega)]
  simp [hl]
theorem plN_all (p : List Int) (hl : p.length = 69) : plN (p.take 64) (p.getD 64 0) (p.getD 65 0) (p.getD 66 0) (p.getD 67 0) (p.getD 68 0) = p := by
  unfold plN
  have h : p.drop 64 = [p.getD 64 0, p.getD 65 0, p.getD 66 0, p.getD 67 0, p.getD 68 0] := by
    apply List.ext_getElem?
    intro i
    match i with
    | 0 => simp [List.getElem?_drop, hl]
    | 1 => simp [List.getElem?_drop, hl]
    | 2 => simp [List.getElem?_drop, hl]
    | 3 => simp [List.getElem?_drop, hl]
    | 4 => simp [List.getElem?_drop, hl]
    | i + 5 => rw [List.getElem?_eq_none (by simp [hl]), List.getElem?_eq_none (by simp)]
  rw [← h, List.take_append_drop]
theorem bt_infoP : (Tryz.prog.info? 24).map (fun i => (i.zero, i.size)) = some (some (.agg (ints (List.replicate 69 0))), 69) := by kernel_rfl
/-- Cells laid over others, from one place on. -/
theorem overP : ∀ (l : List Value) (k : Nat) (cs : Array Value), k + l.length ≤ cs.size → ((l.zipIdx k).foldl (fun (cs : Array Value) (x : Value × Nat) => cs.setIfInBounds (0 + x.2) x.1) cs).toList = cs.toList.take k ++ l ++ cs.toList.drop (k + l.length)
  | [], k, cs, h => by simp
  | x :: l, k, cs, h => by
    simp only [List.zipIdx_cons, List.foldl_cons]
    have hk : k < cs.size := by simp at h; omega
    rw [overP l (k + 1) _ (by simp at h ⊢; omega)]
    simp only [Nat.zero_add, Array.toList_setIfInBounds]
    have e1 : (cs.toList.set k x).take (k + 1) = cs.toList.take k ++ [x] := by
      rw [List.take_add_one, List.take_set_of_le (Nat.le_refl k)]
      simp [hk]
    have e2 : (cs.toList.set k x).drop (k + 1 + l.length) = cs.toList.drop (k + 1 + l.length) := by
      rw [List.drop_set_of_lt (by omega)]
    rw [e1, e2]
    simp [Nat.add_assoc, Nat.add_comm 1]
theorem fillP (p : List Int) (h : p.length = 64) : (ints p).zipIdx.foldl (fun cs (c, j) => cs.setIfInBounds (0 + j) c) (ints (List.replicate 69 0)) = ints (p ++ [0, 0, 0, 0, 0]) := by
  apply Array.ext'
  rw [← Array.foldl_toList, Array.toList_zipIdx]
  have := overP (ints p).toList 0 (ints (List.replicate 69 0)) (by simp [ints, h])
  refine Eq.trans this ?_
  simp [ints, h]
theorem builtP (p : List Int) (h : p.length = 64) (a b c : Int) : Tryz.prog.built 24 [(0, .agg (ints p)), (3, .int .i64 a), (4, .int .i64 b), (5, .int .i64 c)] = some (ints (p ++ [0, 0, a, b, c])) := by
  have hp : (Tryz.prog.fieldsOf 24).toList.mapM (fun f => (Tryz.prog.info? f.type).map fun i => (f.offset, i.size)) = some [(0, 64), (64, 1), (65, 1), (66, 1), (67, 1), (68, 1)] := by kernel_rfl
  have hu : Tryz.prog.underlying 24 = some (.struct (Tryz.prog.fieldsOf 24)) := by kernel_rfl
  have hi := bt_infoP
  cases hin : Tryz.prog.info? 24 with
  | none => rw [hin] at hi; cases hi
  | some it =>
    rw [hin] at hi
    simp only [Option.map_some, Option.some.injEq, Prod.mk.injEq] at hi
    unfold Program.built
    simp only [hin, hu, hi.1, hp]
    have hs : (Value.agg (ints p)).cells = ints p := rfl
    have hs2 : (Value.agg (ints (List.replicate 69 0))).cells = ints (List.replicate 69 0) := rfl
    simp only [hs2, Instr.fill, hs, ints_size, h]
    have hf : Array.foldl (fun cs (x : Value × Nat) => cs.setIfInBounds (0 + x.snd) x.fst) (ints (List.replicate 69 0)) (ints p).zipIdx = ints (p ++ [0, 0, 0, 0, 0]) := fillP p h
    simp only [show (#[(0, 64), (64, 1), (65, 1), (66, 1), (67, 1), (68, 1)] : Array (Nat × Nat))[0]? = some (0, 64) from rfl, show (#[(0, 64), (64, 1), (65, 1), (66, 1), (67, 1), (68, 1)] : Array (Nat × Nat))[3]? = some (66, 1) from rfl, show (#[(0, 64), (64, 1), (65, 1), (66, 1), (67, 1), (68, 1)] : Array (Nat × Nat))[4]? = some (67, 1) from rfl, show (#[(0, 64), (64, 1), (65, 1), (66, 1), (67, 1), (68, 1)] : Array (Nat × Nat))[5]? = some (68, 1) from rfl]
    have one : ∀ (cs : Array Value) (k : Nat) (v : Int), Array.foldl (fun cs (x : Value × Nat) => cs.setIfInBounds (k + x.snd) x.fst) cs (Value.int .i64 v).cells.zipIdx = cs.setIfInBounds k (.int .i64 v) := fun cs k v => rfl
    have sz : ∀ v : Int, (Value.int .i64 v).cells.size = 1 := fun _ => rfl
    have hset : ∀ (l : List Int) (k : Nat) (z : Int), (ints l).setIfInBounds k (.int .i64 z) = ints (l.set k z) := fun l k z => by
      apply Array.ext'
      simp [ints, List.map_set]
    rw [hf]
    simp only [one, sz, hset, ints_size]
    have e : (((p ++ [0, 0, 0, 0, 0]).set 66 a).set 67 b).set 68 c = p ++ [0, 0, a, b, c] := by
      rw [List.set_append_right _ _ (by omega), List.set_append_right _ _ (by omega), List.set_append_right _ _ (by omega)]
      simp [h]
    rw [e]
    simp [h]
theorem at_build_plain {ops : Array Oper} {rest : List Oper} {a : Act} {w : World} {Q : Exit → Act → World → Prop} {d : Option Tmp} {x y z u : Operand} {ty : TypeId} {ps : String} {af : Array Edge} (p : List Int) (i j k : Int) (hl : p.length = 64) (hx : a.eval x = .agg (ints p)) (hy : a.eval y = .int .i64 i) (hz : a.eval z = .int .i64 j) (hu : a.eval u = .int .i64 k)
    (h : wpList Tryz.prog ops Q rest (a.put d (.agg (ints (plN p 0 0 i j k)))) w) : wpList Tryz.prog ops Q ({ dst := d, op := .build 24 #[(0, x), (3, y), (4, z), (5, u)], type := ty, pos := ps, after := af, guard := none } :: rest) a w :=
  wpList_buildTo rfl _ _ rfl d rfl (ints (p ++ [0, 0, i, j, k])) (by simp only [List.map_toArray, List.map_cons, List.map_nil, hx, hy, hz, hu]; exact builtP p hl i j k) h
end Go.Proofs.YtnjdgooljnbebaaGreatDoor
namespace Go.Proofs.YtnjdgooljnbebaaGreatDoor
open Go Go.RowKit
set_option maxHeartbeats 8000000
set_option linter.unusedSimpArgs false
set_option linter.unusedVariables false
set_option maxRecDepth 100000

/-- What the engine's position of p holds, whatever moves are cached. -/
structure EngCells (p : List Int) (tn pg bg : Nat) (w : World) : Prop where
  c0 : w.cell? ⟨pg, 0, none⟩ = some (.pointer (some ⟨bg, 0, none⟩))
  c1 : w.cell? ⟨pg, 1, none⟩ = some (.string (casText (p.getD 65 0)))
  c3 : w.cell? ⟨pg, 3, none⟩ = some (.int .i64 (p.getD 67 0))
  c4 : w.cell? ⟨pg, 4, none⟩ = some (.int .i64 (p.getD 68 0))
  c5 : w.cell? ⟨pg, 5, none⟩ = some (.int .i8 ((tn : Int) + 1))
  c6 : w.cell? ⟨pg, 6, none⟩ = some (.int .i8 (p.getD 66 0))
  bd : w.heap[bg]? = some (.cells (brd p) 144 (0, 0))
  lt : pg < w.heap.size
theorem EngPos.cells {p : List Int} {tn pg bg : Nat} {w : World} (h : EngPos p tn pg bg w) : EngCells p tn pg bg w :=
  ⟨cell_of_row w pg 0 _ _ _ h.ps, cell_of_row w pg 1 _ _ _ h.ps, cell_of_row w pg 3 _ _ _ h.ps, cell_of_row w pg 4 _ _ _ h.ps, cell_of_row w pg 5 _ _ _ h.ps, cell_of_row w pg 6 _ _ _ h.ps, h.bd, (Array.getElem?_eq_some_iff.1 h.ps).1⟩
theorem EngCells.below {p : List Int} {tn pg bg : Nat} {w w' : World} {B : Nat} (h : EngCells p tn pg bg w) (hb : Below B w w') (hB : w.heap.size ≤ B) : EngCells p tn pg bg w' :=
  have hb' := hb.mono hB
  ⟨(hb'.cell (p := ⟨pg, 0, none⟩) h.lt).trans h.c0, (hb'.cell (p := ⟨pg, 1, none⟩) h.lt).trans h.c1, (hb'.cell (p := ⟨pg, 3, none⟩) h.lt).trans h.c3, (hb'.cell (p := ⟨pg, 4, none⟩) h.lt).trans h.c4, (hb'.cell (p := ⟨pg, 5, none⟩) h.lt).trans h.c5, (hb'.cell (p := ⟨pg, 6, none⟩) h.lt).trans h.c6, (hb'.block bg (Array.getElem?_eq_some_iff.1 h.bd).1).trans h.bd, Nat.lt_of_lt_of_le h.lt hb'.size⟩
theorem pm_board (g : Nat) (v : Value) (w : World) (hc : w.cell? ⟨g, 0, none⟩ = some v) :
    Calls Tryz.prog 73 #[.pointer (some ⟨g, 0, none⟩)] w fun e w' => e = .returned v ∧ w = w' := by
  go_enter Tryz.func73, Tryz.ntmps73
  go_wp2
  go_ret
  exact ⟨rfl, rfl⟩
theorem pm_ep (g : Nat) (v : Value) (w : World) (hc : w.cell? ⟨g, 6, none⟩ = some v) :
    Calls Tryz.prog 74 #[.pointer (some ⟨g, 0, none⟩)] w fun e w' => e = .returned v ∧ w = w' := by
  go_enter Tryz.func74, Tryz.ntmps74
  go_wp2
  go_ret
  exact ⟨rfl, rfl⟩
theorem pm_half (g : Nat) (v : Value) (w : World) (hc : w.cell? ⟨g, 3, none⟩ = some v) :
    Calls Tryz.prog 75 #[.pointer (some ⟨g, 0, none⟩)] w fun e w' => e = .returned v ∧ w = w' := by
  go_enter Tryz.func75, Tryz.ntmps75
  go_wp2
  go_ret
  exact ⟨rfl, rfl⟩
theorem pm_count (g : Nat) (v : Value) (w : World) (hc : w.cell? ⟨g, 4, none⟩ = some v) :
    Calls Tryz.prog 76 #[.pointer (some ⟨g, 0, none⟩)] w fun e w' => e = .returned v ∧ w = w' := by
  go_enter Tryz.func76, Tryz.ntmps76
  go_wp2
  go_ret
  exact ⟨rfl, rfl⟩
theorem pm_cas (g : Nat) (v : Value) (w : World) (hc : w.cell? ⟨g, 1, none⟩ = some v) :
    Calls Tryz.prog 78 #[.pointer (some ⟨g, 0, none⟩)] w fun e w' => e = .returned v ∧ w = w' := by
  go_enter Tryz.func78, Tryz.ntmps78
  go_wp2
  go_ret
  exact ⟨rfl, rfl⟩
theorem pm_plainB (p : List Int) (hp : Pos p) (g : Nat) (w : World) (hA : IntSl w 0 .i8 allL) (hg : w.heap[g]? = some (.cells (brd p) 144 (0, 0))) :
    Calls Tryz.prog 72 #[.pointer (some ⟨g, 0, none⟩)] w fun e' w' => e' = .returned (.agg (ints (p.take 64))) ∧ Below w.heap.size w w' := by
  rw [← brd_take] at hg
  exact bq_plain (p.take 64) hp.board g w hA hg
/-- The rights below the bit k. -/
def lowB (ca : Int) (k : Nat) : Int := ca % 2 ^ k
theorem lowB_all : ∀ a < 16, ∀ k < 4, lowB ((a : Nat) : Int) (k + 1) = (if decide (a / 2 ^ k % 2 = 1) = true then bits .or .i64 (lowB ((a : Nat) : Int) k) (2 ^ k) else lowB ((a : Nat) : Int) k) := by decide +kernel
def colC : Array Value := #[.int .i8 1, .int .i8 1, .int .i8 2, .int .i8 2]
theorem pm_plain (p : List Int) (tn : Nat) (hs : Sound p tn) (pg bg : Nat) (w : World) (hE : EngCells p tn pg bg w) (hA : IntSl w 0 .i8 allL) :
    Calls Tryz.prog 43 #[.pointer (some ⟨pg, 0, none⟩)] w fun e w' => e = .returned (.agg (ints p)) ∧ Below w.heap.size w w' := by
  have hl := hs.pos.len
  have hl64 : (p.take 64).length = 64 := by simp [hl]
  have hBW : Below w.heap.size w (w.alloc (.cells (ints (List.replicate 69 0)) 24)) := (Below.refl _ _).alloc (Nat.le_refl _) _
  have hr0 : (w.alloc (.cells (ints (List.replicate 69 0)) 24)).heap[w.heap.size]? = some (.cells (ints (List.replicate 69 0)) 24 (0, 0)) := heap_alloc_new w _
  have hE1 := hE.below hBW (Nat.le_refl _)
  have hA1 := hA.below hBW
  have e0 := lay (pm_board pg _ _ hE1.c0)
  have e1 := lay (pm_plainB p hs.pos bg _ hA1 hE1.bd)
  have hBs := lay hBW
  have hr0s := lay hr0
  have g1 : Shut (∀ V, Below w.heap.size w V → V.cell? ⟨pg, 1, none⟩ = some (.string (casText (p.getD 65 0)))) := fun V hV => (hE.below hV (Nat.le_refl _)).c1
  have g3 : Shut (∀ V, Below w.heap.size w V → V.cell? ⟨pg, 3, none⟩ = some (.int .i64 (p.getD 67 0))) := fun V hV => (hE.below hV (Nat.le_refl _)).c3
  have g4 : Shut (∀ V, Below w.heap.size w V → V.cell? ⟨pg, 4, none⟩ = some (.int .i64 (p.getD 68 0))) := fun V hV => (hE.below hV (Nat.le_refl _)).c4
  have g5 : Shut (∀ V, Below w.heap.size w V → V.cell? ⟨pg, 5, none⟩ = some (.int .i8 ((tn : Int) + 1))) := fun V hV => (hE.below hV (Nat.le_refl _)).c5
  have g6 : Shut (∀ V, Below w.heap.size w V → V.cell? ⟨pg, 6, none⟩ = some (.int .i8 (p.getD 66 0))) := fun V hV => (hE.below hV (Nat.le_refl _)).c6
  obtain ⟨ep0, ep1⟩ := hs.ep
  have hw64 : IntKind.i64.wrap (p.getD 66 0) = p.getD 66 0 := by rw [IntKind.wrap_i64]; omega
  have hone := hs.one
  have ca0 := hs.ca0
  have ca1 := hs.ca1
  have hall : Shut (plN (p.take 64) (tn : Int) (p.getD 65 0) (p.getD 66 0) (p.getD 67 0) (p.getD 68 0) = p) := by
    have h := plN_all p hl
    rw [hs.turn] at h
    exact h
  clear hE hA hs hBW hE1 hA1 hr0
  generalize p.getD 65 0 = ca at *
  generalize p.getD 66 0 = ep at *
  generalize p.getD 67 0 = ha at *
  generalize p.getD 68 0 = fu at *
  generalize p.take 64 = bd at *
  go_enter Tryz.func43, Tryz.ntmps43
  go_wp2_with fail
  refine e0.out.mono ?_
  rintro q0 w0 ⟨rfl, rfl⟩
  go_wp2_with fail
  refine e1.out.mono ?_
  rintro q1 w1 ⟨rfl, hb1⟩
  have hB1 := hBs.out.trans (hb1.mono hBs.out.size)
  have r1 := lay ((hb1.block w.heap.size (by simp)).trans hr0s.out)
  have c6 := g6.out w1 hB1
  have c3 := g3.out w1 hB1
  have c4 := g4.out w1 hB1
  have hB1s := lay hB1
  have hsz1 : w.heap.size < w1.heap.size := by have := hb1.size; simp at this; omega
  clear hb1 hB1
  go_wp2_with (first
    | (go_at_call 74; refine (pm_ep pg _ _ c6).mono ?_; rintro e2 w2 ⟨rfl, rfl⟩)
    | (go_at_call 75; refine (pm_half pg _ _ c3).mono ?_; rintro e2 w2 ⟨rfl, rfl⟩)
    | (go_at_call 76; refine (pm_count pg _ _ c4).mono ?_; rintro e2 w2 ⟨rfl, rfl⟩)
    | ((with_reducible refine at_build_plain bd ep ha fu hl64 ?_ ?_ ?_ ?_ ?_); rfl; rfl; rfl; rfl)
    | ((with_reducible refine at_new_row (ints (plN bd 0 0 ep ha fu)) ?_ ?_ ?_ ?_ ?_ ?_); (rw [ints_size, plN_len _ _ _ _ _ _ hl64]; kernel_rfl); (rw [ints_size, plN_len _ _ _ _ _ _ hl64]; kernel_rfl); exact ints_one _; rfl; rfl; intro W4 rG4 hC4))
  have hB4 := lay (hB1s.out.trans (hC4.mono hB1s.out.size))
  have c5 := g5.out W4 hB4.out
  have r4 := lay ((hC4.block w.heap.size hsz1).trans r1.out)
  have rN4 := lay rG4
  have hz4 : w1.heap.size < W4.heap.size := (Array.getElem?_eq_some_iff.1 rG4).1
  have k64 : W4.cell? ⟨w1.heap.size, 64, none⟩ = some (.int .i64 ((plN bd 0 0 ep ha fu).getD 64 0)) := row_cell rG4 64 (by rw [plN_len _ _ _ _ _ _ hl64]; omega)
  have f64 := frozen_of_row W4 w1.heap.size 64 _ _ rG4
  clear c3 c4 c6 rG4 hC4
  refine (da_turn pg _ _ c5).mono ?_
  rintro e5 w5 ⟨rfl, rfl⟩
  have hpc := lay (fun (k : Nat) hk (a b : Int) ha hb V => cc_right ca ca0 ca1 k hk a b ha hb V)
  rcases (show tn = 0 ∨ tn = 1 by omega) with rfl | rfl
  · go_upto_region 4 with (fail)
    have rN5 : W4.heap[w1.heap.size]? = some (.cells (ints (plN bd ((0 : Nat) : Int) 0 ep ha fu)) 24 (0, 0)) := rN4.out
    have r5 : W4.heap[w.heap.size]? = some (.cells (ints (List.replicate 69 0)) 24 (0, 0)) := r4.out
    have hB5 : Below w.heap.size w W4 := hB4.out
    clear k64 f64 c5 r4 rN4 hB4
    generalize W4 = W5 at *
    have hzN : w1.heap.size < W5.heap.size := (Array.getElem?_eq_some_iff.1 rN5).1
    have rC : (W5.alloc (.cells colC 93)).heap[W5.heap.size]? = some (.cells colC 93 (0, 0)) := heap_alloc_new W5 _
    have rN6 : (W5.alloc (.cells colC 93)).heap[w1.heap.size]? = some (.cells (ints (plN bd ((0 : Nat) : Int) (lowB ca 0) ep ha fu)) 24 (0, 0)) := by
      have e : lowB ca 0 = 0 := by unfold lowB; simp
      rw [e]
      exact heap_keep rN5
    have r6 : (W5.alloc (.cells colC 93)).heap[w.heap.size]? = some (.cells (ints (List.replicate 69 0)) 24 (0, 0)) := heap_keep r5
    have hB6 : Below w.heap.size w (W5.alloc (.cells colC 93)) := hB5.alloc (by omega) _
    have rCs := lay rC
    have rN6s := lay rN6
    have r6s := lay r6
    have hB6s := lay hB6
    have hlow : Shut (∀ k, k < 4 → lowB ca (k + 1) = (if decide (ca.toNat / 2 ^ k % 2 = 1) = true then bits .or .i64 (lowB ca k) (2 ^ k) else lowB ca k)) := by
      intro k hk
      obtain ⟨n, rfl⟩ := Int.eq_ofNat_of_zero_le ca0
      exact lowB_all n (by omega) k hk
    clear rN5 r5 hB5 rC rN6 r6 hB6
    go_wp2_with fail
    change Code.wp _ _ _ _ (W5.alloc (.cells colC 93))
    generalize W5.alloc (.cells colC 93) = W6 at *
    go_loopw [23] (fun i wr => ∃ k : Nat, k ≤ 4 ∧ i = .int .i64 (k : Int) ∧ wr.heap[w1.heap.size]? = some (.cells (ints (plN bd ((0 : Nat) : Int) (lowB ca k) ep ha fu)) 24 (0, 0)) ∧ wr.heap[w.heap.size]? = some (.cells (ints (List.replicate 69 0)) 24 (0, 0)) ∧ wr.heap[W5.heap.size]? = some (.cells colC 93 (0, 0)) ∧ Below w.heap.size w wr) (fun i _ => (4 - intOf i).toNat)
    case atStart => exact ⟨0, by omega, rfl, rN6s.out, r6s.out, rCs.out, hB6s.out⟩
    case round =>
      obtain ⟨k, hk, rfl, rN, r0, rC, hbr⟩ := hrel
      have zN : w1.heap.size < wr.heap.size := (Array.getElem?_eq_some_iff.1 rN).1
      have z0 : w.heap.size < wr.heap.size := (Array.getElem?_eq_some_iff.1 r0).1
      have zC : W5.heap.size < wr.heap.size := (Array.getElem?_eq_some_iff.1 rC).1
      by_cases hlt : k < 4
      · have hlk := lay (hlow.out k hlt)
        have hck := lay (fun (a b : Int) ha hb V => hpc.out k hlt a b ha hb V)
        have c1 := g1.out wr hbr
        have hcc : ∀ j, j < 4 → wr.cell? ⟨W5.heap.size, j, none⟩ = colC[j]? := fun j hj => cell_of_row wr W5.heap.size j _ _ _ rC
        have hcs := lay hcc
        have hbs := lay hbr
        have rNs := lay rN
        have r0s := lay r0
        have rCs2 := lay rC
        clear hcc hbr rN r0 rC
        rcases (show k = 0 ∨ k = 1 ∨ k = 2 ∨ k = 3 by omega) with rfl | rfl | rfl | rfl
        · have hcol : wr.cell? ⟨W5.heap.size, 0, none⟩ = some (.int .i8 1) := hcs.out 0 (by decide)
          go_wp2_with (first
            | (go_at_call 78; refine (pm_cas pg _ _ c1).mono ?_; rintro e6 w6 ⟨rfl, rfl⟩))
          refine (hck.out 1 1 (by decide) (by decide) _).mono ?_
          rintro e7 w7 ⟨rfl, hb7⟩
          have rN7 := (hb7.block w1.heap.size zN).trans rNs.out
          have r07 := (hb7.block w.heap.size z0).trans r0s.out
          have rC7 := (hb7.block W5.heap.size zC).trans rCs2.out
          have hB7 := lay (hbs.out.trans (hb7.mono hbs.out.size))
          have k65 : w7.cell? ⟨w1.heap.size, 65, none⟩ = some (.int .i64 (lowB ca 0)) := (row_cell rN7 65 (by rw [plN_len _ _ _ _ _ _ hl64]; omega)).trans (by rw [plN_65 _ _ _ _ _ _ hl64])
          have f65 := frozen_of_row w7 w1.heap.size 65 _ _ rN7
          have hset := row_set rN7 65 (bits .or .i64 (lowB ca 0) 1)
          rw [plN_set65 _ _ _ _ _ _ _ hl64] at hset
          have hall2 := lay (And.intro rN7 (And.intro r07 (And.intro rC7 hset)))
          clear rN7 r07 rC7 hset hb7 c1 hcol
          cases hbit : decide (ca.toNat / 2 ^ 0 % 2 = 1) with
          | true =>
            have hlk2 : Shut (lowB ca (0 + 1) = bits .or .i64 (lowB ca 0) 1) := by
              have h := hlk.out
              rw [hbit, if_pos rfl] at h
              exact h
            clear hbit
            generalize lowB ca 0 = cl at *
            go_wp2_with fail
            go_region
            go_wp2_with fail
            all_goals (
              go_roundw
              case rel =>
                have R : ∃ k' : Nat, k' ≤ 4 ∧ Value.int .i64 1 = .int .i64 (k' : Int) ∧ ((w7.setCell ⟨w1.heap.size, 65, none⟩ (.int .i64 (bits .or .i64 cl 1))).drew).heap[w1.heap.size]? = some (.cells (ints (plN bd ((0 : Nat) : Int) (lowB ca k') ep ha fu)) 24 (0, 0)) ∧ ((w7.setCell ⟨w1.heap.size, 65, none⟩ (.int .i64 (bits .or .i64 cl 1))).drew).heap[w.heap.size]? = some (.cells (ints (List.replicate 69 0)) 24 (0, 0)) ∧ ((w7.setCell ⟨w1.heap.size, 65, none⟩ (.int .i64 (bits .or .i64 cl 1))).drew).heap[W5.heap.size]? = some (.cells colC 93 (0, 0)) ∧ Below w.heap.size w ((w7.setCell ⟨w1.heap.size, 65, none⟩ (.int .i64 (bits .or .i64 cl 1))).drew) :=
                  ⟨1, by omega, rfl, by rw [hlk2.out]; exact hall2.out.2.2.2, (heap_setCell_other _ _ _ _ (by show w.heap.size ≠ w1.heap.size; omega)).trans hall2.out.2.1, (heap_setCell_other _ _ _ _ (by show W5.heap.size ≠ w1.heap.size; omega)).trans hall2.out.2.2.1, (hB7.out.setCell (p := ⟨w1.heap.size, 65, none⟩) (by show w.heap.size ≤ w1.heap.size; omega) _).drew⟩
                first | exact R | ((repeat apply Exists.intro); exact ⟨R, rfl⟩)
              case measure => simp [intOf])
          | false =>
            have hlk2 : Shut (lowB ca (0 + 1) = lowB ca 0) := by
              have h := hlk.out
              rw [hbit, if_neg (by decide)] at h
              exact h
            clear hbit
            go_wp2_with fail
            go_roundw
            case rel =>
              have R : ∃ k' : Nat, k' ≤ 4 ∧ Value.int .i64 1 = .int .i64 (k' : Int) ∧ w7.heap[w1.heap.size]? = some (.cells (ints (plN bd ((0 : Nat) : Int) (lowB ca k') ep ha fu)) 24 (0, 0)) ∧ w7.heap[w.heap.size]? = some (.cells (ints (List.replicate 69 0)) 24 (0, 0)) ∧ w7.heap[W5.heap.size]? = some (.cells colC 93 (0, 0)) ∧ Below w.heap.size w w7 := ⟨1, by omega, rfl, by rw [hlk2.out]; exact hall2.out.1, hall2.out.2.1, hall2.out.2.2.1, hB7.out⟩
              first | exact R | ((repeat apply Exists.intro); exact ⟨R, rfl⟩)
            case measure => simp [intOf]
        · have hcol : wr.cell? ⟨W5.heap.size, 1, none⟩ = some (.int .i8 1) := hcs.out 1 (by decide)
          go_wp2_with (first
            | (go_at_call 78; refine (pm_cas pg _ _ c1).mono ?_; rintro e6 w6 ⟨rfl, rfl⟩))
          refine (hck.out 1 2 (by decide) (by decide) _).mono ?_
          rintro e7 w7 ⟨rfl, hb7⟩
          have rN7 := (hb7.block w1.heap.size zN).trans rNs.out
          have r07 := (hb7.block w.heap.size z0).trans r0s.out
          have rC7 := (hb7.block W5.heap.size zC).trans rCs2.out
          have hB7 := lay (hbs.out.trans (hb7.mono hbs.out.size))
          have k65 : w7.cell? ⟨w1.heap.size, 65, none⟩ = some (.int .i64 (lowB ca 1)) := (row_cell rN7 65 (by rw [plN_len _ _ _ _ _ _ hl64]; omega)).trans (by rw [plN_65 _ _ _ _ _ _ hl64])
          have f65 := frozen_of_row w7 w1.heap.size 65 _ _ rN7
          have hset := row_set rN7 65 (bits .or .i64 (lowB ca 1) 2)
          rw [plN_set65 _ _ _ _ _ _ _ hl64] at hset
          have hall2 := lay (And.intro rN7 (And.intro r07 (And.intro rC7 hset)))
          clear rN7 r07 rC7 hset hb7 c1 hcol
          cases hbit : decide (ca.toNat / 2 ^ 1 % 2 = 1) with
          | true =>
            have hlk2 : Shut (lowB ca (1 + 1) = bits .or .i64 (lowB ca 1) 2) := by
              have h := hlk.out
              rw [hbit, if_pos rfl] at h
              exact h
            clear hbit
            generalize lowB ca 1 = cl at *
            go_wp2_with fail
            go_region
            go_wp2_with fail
            all_goals (
              go_roundw
              case rel =>
                have R : ∃ k' : Nat, k' ≤ 4 ∧ Value.int .i64 2 = .int .i64 (k' : Int) ∧ ((w7.setCell ⟨w1.heap.size, 65, none⟩ (.int .i64 (bits .or .i64 cl 2))).drew).heap[w1.heap.size]? = some (.cells (ints (plN bd ((0 : Nat) : Int) (lowB ca k') ep ha fu)) 24 (0, 0)) ∧ ((w7.setCell ⟨w1.heap.size, 65, none⟩ (.int .i64 (bits .or .i64 cl 2))).drew).heap[w.heap.size]? = some (.cells (ints (List.replicate 69 0)) 24 (0, 0)) ∧ ((w7.setCell ⟨w1.heap.size, 65, none⟩ (.int .i64 (bits .or .i64 cl 2))).drew).heap[W5.heap.size]? = some (.cells colC 93 (0, 0)) ∧ Below w.heap.size w ((w7.setCell ⟨w1.heap.size, 65, none⟩ (.int .i64 (bits .or .i64 cl 2))).drew) :=
                  ⟨2, by omega, rfl, by rw [hlk2.out]; exact hall2.out.2.2.2, (heap_setCell_other _ _ _ _ (by show w.heap.size ≠ w1.heap.size; omega)).trans hall2.out.2.1, (heap_setCell_other _ _ _ _ (by show W5.heap.size ≠ w1.heap.size; omega)).trans hall2.out.2.2.1, (hB7.out.setCell (p := ⟨w1.heap.size, 65, none⟩) (by show w.heap.size ≤ w1.heap.size; omega) _).drew⟩
                first | exact R | ((repeat apply Exists.intro); exact ⟨R, rfl⟩)
              case measure => simp [intOf])
          | false =>
            have hlk2 : Shut (lowB ca (1 + 1) = lowB ca 1) := by
              have h := hlk.out
              rw [hbit, if_neg (by decide)] at h
              exact h
            clear hbit
            go_wp2_with fail
            go_roundw
            case rel =>
              have R : ∃ k' : Nat, k' ≤ 4 ∧ Value.int .i64 2 = .int .i64 (k' : Int) ∧ w7.heap[w1.heap.size]? = some (.cells (ints (plN bd ((0 : Nat) : Int) (lowB ca k') ep ha fu)) 24 (0, 0)) ∧ w7.heap[w.heap.size]? = some (.cells (ints (List.replicate 69 0)) 24 (0, 0)) ∧ w7.heap[W5.heap.size]? = some (.cells colC 93 (0, 0)) ∧ Below w.heap.size w w7 := ⟨2, by omega, rfl, by rw [hlk2.out]; exact hall2.out.1, hall2.out.2.1, hall2.out.2.2.1, hB7.out⟩
              first | exact R | ((repeat apply Exists.intro); exact ⟨R, rfl⟩)
            case measure => simp [intOf]
        · have hcol : wr.cell? ⟨W5.heap.size, 2, none⟩ = some (.int .i8 2) := hcs.out 2 (by decide)
          go_wp2_with (first
            | (go_at_call 78; refine (pm_cas pg _ _ c1).mono ?_; rintro e6 w6 ⟨rfl, rfl⟩))
          refine (hck.out 2 1 (by decide) (by decide) _).mono ?_
          rintro e7 w7 ⟨rfl, hb7⟩
          have rN7 := (hb7.block w1.heap.size zN).trans rNs.out
          have r07 := (hb7.block w.heap.size z0).trans r0s.out
          have rC7 := (hb7.block W5.heap.size zC).trans rCs2.out
          have hB7 := lay (hbs.out.trans (hb7.mono hbs.out.size))
          have k65 : w7.cell? ⟨w1.heap.size, 65, none⟩ = some (.int .i64 (lowB ca 2)) := (row_cell rN7 65 (by rw [plN_len _ _ _ _ _ _ hl64]; omega)).trans (by rw [plN_65 _ _ _ _ _ _ hl64])
          have f65 := frozen_of_row w7 w1.heap.size 65 _ _ rN7
          have hset := row_set rN7 65 (bits .or .i64 (lowB ca 2) 4)
          rw [plN_set65 _ _ _ _ _ _ _ hl64] at hset
          have hall2 := lay (And.intro rN7 (And.intro r07 (And.intro rC7 hset)))
          clear rN7 r07 rC7 hset hb7 c1 hcol
          cases hbit : decide (ca.toNat / 2 ^ 2 % 2 = 1) with
          | true =>
            have hlk2 : Shut (lowB ca (2 + 1) = bits .or .i64 (lowB ca 2) 4) := by
              have h := hlk.out
              rw [hbit, if_pos rfl] at h
              exact h
            clear hbit
            generalize lowB ca 2 = cl at *
            go_wp2_with fail
            go_region
            go_wp2_with fail
            all_goals (
              go_roundw
              case rel =>
                have R : ∃ k' : Nat, k' ≤ 4 ∧ Value.int .i64 3 = .int .i64 (k' : Int) ∧ ((w7.setCell ⟨w1.heap.size, 65, none⟩ (.int .i64 (bits .or .i64 cl 4))).drew).heap[w1.heap.size]? = some (.cells (ints (plN bd ((0 : Nat) : Int) (lowB ca k') ep ha fu)) 24 (0, 0)) ∧ ((w7.setCell ⟨w1.heap.size, 65, none⟩ (.int .i64 (bits .or .i64 cl 4))).drew).heap[w.heap.size]? = some (.cells (ints (List.replicate 69 0)) 24 (0, 0)) ∧ ((w7.setCell ⟨w1.heap.size, 65, none⟩ (.int .i64 (bits .or .i64 cl 4))).drew).heap[W5.heap.size]? = some (.cells colC 93 (0, 0)) ∧ Below w.heap.size w ((w7.setCell ⟨w1.heap.size, 65, none⟩ (.int .i64 (bits .or .i64 cl 4))).drew) :=
                  ⟨3, by omega, rfl, by rw [hlk2.out]; exact hall2.out.2.2.2, (heap_setCell_other _ _ _ _ (by show w.heap.size ≠ w1.heap.size; omega)).trans hall2.out.2.1, (heap_setCell_other _ _ _ _ (by show W5.heap.size ≠ w1.heap.size; omega)).trans hall2.out.2.2.1, (hB7.out.setCell (p := ⟨w1.heap.size, 65, none⟩) (by show w.heap.size ≤ w1.heap.size; omega) _).drew⟩
                first | exact R | ((repeat apply Exists.intro); exact ⟨R, rfl⟩)
              case measure => simp [intOf])
          | false =>
            have hlk2 : Shut (lowB ca (2 + 1) = lowB ca 2) := by
              have h := hlk.out
              rw [hbit, if_neg (by decide)] at h
              exact h
            clear hbit
            go_wp2_with fail
            go_roundw
            case rel =>
              have R : ∃ k' : Nat, k' ≤ 4 ∧ Value.int .i64 3 = .int .i64 (k' : Int) ∧ w7.heap[w1.heap.size]? = some (.cells (ints (plN bd ((0 : Nat) : Int) (lowB ca k') ep ha fu)) 24 (0, 0)) ∧ w7.heap[w.heap.size]? = some (.cells (ints (List.replicate 69 0)) 24 (0, 0)) ∧ w7.heap[W5.heap.size]? = some (.cells colC 93 (0, 0)) ∧ Below w.heap.size w w7 := ⟨3, by omega, rfl, by rw [hlk2.out]; exact hall2.out.1, hall2.out.2.1, hall2.out.2.2.1, hB7.out⟩
              first | exact R | ((repeat apply Exists.intro); exact ⟨R, rfl⟩)
            case measure => simp [intOf]
        · have hcol : wr.cell? ⟨W5.heap.size, 3, none⟩ = some (.int .i8 2) := hcs.out 3 (by decide)
          go_wp2_with (first
            | (go_at_call 78; refine (pm_cas pg _ _ c1).mono ?_; rintro e6 w6 ⟨rfl, rfl⟩))
          refine (hck.out 2 2 (by decide) (by decide) _).mono ?_
          rintro e7 w7 ⟨rfl, hb7⟩
          have rN7 := (hb7.block w1.heap.size zN).trans rNs.out
          have r07 := (hb7.block w.heap.size z0).trans r0s.out
          have rC7 := (hb7.block W5.heap.size zC).trans rCs2.out
          have hB7 := lay (hbs.out.trans (hb7.mono hbs.out.size))
          have k65 : w7.cell? ⟨w1.heap.size, 65, none⟩ = some (.int .i64 (lowB ca 3)) := (row_cell rN7 65 (by rw [plN_len _ _ _ _ _ _ hl64]; omega)).trans (by rw [plN_65 _ _ _ _ _ _ hl64])
          have f65 := frozen_of_row w7 w1.heap.size 65 _ _ rN7
          have hset := row_set rN7 65 (bits .or .i64 (lowB ca 3) 8)
          rw [plN_set65 _ _ _ _ _ _ _ hl64] at hset
          have hall2 := lay (And.intro rN7 (And.intro r07 (And.intro rC7 hset)))
          clear rN7 r07 rC7 hset hb7 c1 hcol
          cases hbit : decide (ca.toNat / 2 ^ 3 % 2 = 1) with
          | true =>
            have hlk2 : Shut (lowB ca (3 + 1) = bits .or .i64 (lowB ca 3) 8) := by
              have h := hlk.out
              rw [hbit, if_pos rfl] at h
              exact h
            clear hbit
            generalize lowB ca 3 = cl at *
            go_wp2_with fail
            go_region
            go_wp2_with fail
            all_goals (
              go_roundw
              case rel =>
                have R : ∃ k' : Nat, k' ≤ 4 ∧ Value.int .i64 4 = .int .i64 (k' : Int) ∧ ((w7.setCell ⟨w1.heap.size, 65, none⟩ (.int .i64 (bits .or .i64 cl 8))).drew).heap[w1.heap.size]? = some (.cells (ints (plN bd ((0 : Nat) : Int) (lowB ca k') ep ha fu)) 24 (0, 0)) ∧ ((w7.setCell ⟨w1.heap.size, 65, none⟩ (.int .i64 (bits .or .i64 cl 8))).drew).heap[w.heap.size]? = some (.cells (ints (List.replicate 69 0)) 24 (0, 0)) ∧ ((w7.setCell ⟨w1.heap.size, 65, none⟩ (.int .i64 (bits .or .i64 cl 8))).drew).heap[W5.heap.size]? = some (.cells colC 93 (0, 0)) ∧ Below w.heap.size w ((w7.setCell ⟨w1.heap.size, 65, none⟩ (.int .i64 (bits .or .i64 cl 8))).drew) :=
                  ⟨4, by omega, rfl, by rw [hlk2.out]; exact hall2.out.2.2.2, (heap_setCell_other _ _ _ _ (by show w.heap.size ≠ w1.heap.size; omega)).trans hall2.out.2.1, (heap_setCell_other _ _ _ _ (by show W5.heap.size ≠ w1.heap.size; omega)).trans hall2.out.2.2.1, (hB7.out.setCell (p := ⟨w1.heap.size, 65, none⟩) (by show w.heap.size ≤ w1.heap.size; omega) _).drew⟩
                first | exact R | ((repeat apply Exists.intro); exact ⟨R, rfl⟩)
              case measure => simp [intOf])
          | false =>
            have hlk2 : Shut (lowB ca (3 + 1) = lowB ca 3) := by
              have h := hlk.out
              rw [hbit, if_neg (by decide)] at h
              exact h
            clear hbit
            go_wp2_with fail
            go_roundw
            case rel =>
              have R : ∃ k' : Nat, k' ≤ 4 ∧ Value.int .i64 4 = .int .i64 (k' : Int) ∧ w7.heap[w1.heap.size]? = some (.cells (ints (plN bd ((0 : Nat) : Int) (lowB ca k') ep ha fu)) 24 (0, 0)) ∧ w7.heap[w.heap.size]? = some (.cells (ints (List.replicate 69 0)) 24 (0, 0)) ∧ w7.heap[W5.heap.size]? = some (.cells colC 93 (0, 0)) ∧ Below w.heap.size w w7 := ⟨4, by omega, rfl, by rw [hlk2.out]; exact hall2.out.1, hall2.out.2.1, hall2.out.2.2.1, hB7.out⟩
              first | exact R | ((repeat apply Exists.intro); exact ⟨R, rfl⟩)
            case measure => simp [intOf]
      · obtain rfl : k = 4 := by omega
        have e4 : lowB ca 4 = ca := by unfold lowB; simp; omega
        rw [e4, hall.out] at rN
        have hbs := lay hbr
        have r0s := lay r0
        clear hbr rC
        go_wp2_with (first
          | ((with_reducible refine at_load_row rN Tryz.underlying24 rfl ?_ rfl ?_); (rw [ints_size, hl]; kernel_rfl))
          | ((with_reducible refine at_store_row (ints p) r0s.out ?_ ?_ ?_ ?_ ?_ ?_); (rw [ints_size, hl]; kernel_rfl); (rw [ints_size, ints_size, hl, List.length_replicate]); exact ints_one p; rfl; rfl))
        (try simp only [Exit.inBlock, Exit.then])
        exact bodyPost_ret (results_cell1 rfl _ _ w.heap.size 24 (ints p) (0, 0) _ rfl (setRow_heap _ _ _ (ints p) _ _ r0s.out) Tryz.underlying24 rfl (by rw [ints_size, hl]; kernel_rfl)) rfl ⟨rfl, below_setRow hbs.out (Nat.le_refl _) _⟩
  · go_upto_region 4 with (fail)
    have rN5 : (W4.setCell ⟨w1.heap.size, 64, none⟩ (.int .i64 1)).heap[w1.heap.size]? = some (.cells (ints (plN bd ((1 : Nat) : Int) 0 ep ha fu)) 24 (0, 0)) := by
      have h := row_set rN4.out 64 1
      rw [plN_set64 _ _ _ _ _ _ _ hl64] at h
      exact h
    have r5 : (W4.setCell ⟨w1.heap.size, 64, none⟩ (.int .i64 1)).heap[w.heap.size]? = some (.cells (ints (List.replicate 69 0)) 24 (0, 0)) := (heap_setCell_other _ _ _ _ (by show w.heap.size ≠ w1.heap.size; omega)).trans r4.out
    have hB5 : Below w.heap.size w (W4.setCell ⟨w1.heap.size, 64, none⟩ (.int .i64 1)) := hB4.out.setCell (p := ⟨w1.heap.size, 64, none⟩) (by show w.heap.size ≤ w1.heap.size; omega) _
    clear k64 f64 c5 r4 rN4 hB4 hz4
    generalize W4.setCell ⟨w1.heap.size, 64, none⟩ (.int .i64 1) = W5 at *
    have hzN : w1.heap.size < W5.heap.size := (Array.getElem?_eq_some_iff.1 rN5).1
    have rC : (W5.alloc (.cells colC 93)).heap[W5.heap.size]? = some (.cells colC 93 (0, 0)) := heap_alloc_new W5 _
    have rN6 : (W5.alloc (.cells colC 93)).heap[w1.heap.size]? = some (.cells (ints (plN bd ((1 : Nat) : Int) (lowB ca 0) ep ha fu)) 24 (0, 0)) := by
      have e : lowB ca 0 = 0 := by unfold lowB; simp
      rw [e]
      exact heap_keep rN5
    have r6 : (W5.alloc (.cells colC 93)).heap[w.heap.size]? = some (.cells (ints (List.replicate 69 0)) 24 (0, 0)) := heap_keep r5
    have hB6 : Below w.heap.size w (W5.alloc (.cells colC 93)) := hB5.alloc (by omega) _
    have rCs := lay rC
    have rN6s := lay rN6
    have r6s := lay r6
    have hB6s := lay hB6
    have hlow : Shut (∀ k, k < 4 → lowB ca (k + 1) = (if decide (ca.toNat / 2 ^ k % 2 = 1) = true then bits .or .i64 (lowB ca k) (2 ^ k) else lowB ca k)) := by
      intro k hk
      obtain ⟨n, rfl⟩ := Int.eq_ofNat_of_zero_le ca0
      exact lowB_all n (by omega) k hk
    clear rN5 r5 hB5 rC rN6 r6 hB6
    go_wp2_with fail
    change Code.wp _ _ _ _ (W5.alloc (.cells colC 93))
    generalize W5.alloc (.cells colC 93) = W6 at *
    go_loopw [23] (fun i wr => ∃ k : Nat, k ≤ 4 ∧ i = .int .i64 (k : Int) ∧ wr.heap[w1.heap.size]? = some (.cells (ints (plN bd ((1 : Nat) : Int) (lowB ca k) ep ha fu)) 24 (0, 0)) ∧ wr.heap[w.heap.size]? = some (.cells (ints (List.replicate 69 0)) 24 (0, 0)) ∧ wr.heap[W5.heap.size]? = some (.cells colC 93 (0, 0)) ∧ Below w.heap.size w wr) (fun i _ => (4 - intOf i).toNat)
    case atStart => exact ⟨0, by omega, rfl, rN6s.out, r6s.out, rCs.out, hB6s.out⟩
    case round =>
      obtain ⟨k, hk, rfl, rN, r0, rC, hbr⟩ := hrel
      have zN : w1.heap.size < wr.heap.size := (Array.getElem?_eq_some_iff.1 rN).1
      have z0 : w.heap.size < wr.heap.size := (Array.getElem?_eq_some_iff.1 r0).1
      have zC : W5.heap.size < wr.heap.size := (Array.getElem?_eq_some_iff.1 rC).1
      by_cases hlt : k < 4
      · have hlk := lay (hlow.out k hlt)
        have hck := lay (fun (a b : Int) ha hb V => hpc.out k hlt a b ha hb V)
        have c1 := g1.out wr hbr
        have hcc : ∀ j, j < 4 → wr.cell? ⟨W5.heap.size, j, none⟩ = colC[j]? := fun j hj => cell_of_row wr W5.heap.size j _ _ _ rC
        have hcs := lay hcc
        have hbs := lay hbr
        have rNs := lay rN
        have r0s := lay r0
        have rCs2 := lay rC
        clear hcc hbr rN r0 rC
        rcases (show k = 0 ∨ k = 1 ∨ k = 2 ∨ k = 3 by omega) with rfl | rfl | rfl | rfl
        · have hcol : wr.cell? ⟨W5.heap.size, 0, none⟩ = some (.int .i8 1) := hcs.out 0 (by decide)
          go_wp2_with (first
            | (go_at_call 78; refine (pm_cas pg _ _ c1).mono ?_; rintro e6 w6 ⟨rfl, rfl⟩))
          refine (hck.out 1 1 (by decide) (by decide) _).mono ?_
          rintro e7 w7 ⟨rfl, hb7⟩
          have rN7 := (hb7.block w1.heap.size zN).trans rNs.out
          have r07 := (hb7.block w.heap.size z0).trans r0s.out
          have rC7 := (hb7.block W5.heap.size zC).trans rCs2.out
          have hB7 := lay (hbs.out.trans (hb7.mono hbs.out.size))
          have k65 : w7.cell? ⟨w1.heap.size, 65, none⟩ = some (.int .i64 (lowB ca 0)) := (row_cell rN7 65 (by rw [plN_len _ _ _ _ _ _ hl64]; omega)).trans (by rw [plN_65 _ _ _ _ _ _ hl64])
          have f65 := frozen_of_row w7 w1.heap.size 65 _ _ rN7
          have hset := row_set rN7 65 (bits .or .i64 (lowB ca 0) 1)
          rw [plN_set65 _ _ _ _ _ _ _ hl64] at hset
          have hall2 := lay (And.intro rN7 (And.intro r07 (And.intro rC7 hset)))
          clear rN7 r07 rC7 hset hb7 c1 hcol
          cases hbit : decide (ca.toNat / 2 ^ 0 % 2 = 1) with
          | true =>
            have hlk2 : Shut (lowB ca (0 + 1) = bits .or .i64 (lowB ca 0) 1) := by
              have h := hlk.out
              rw [hbit, if_pos rfl] at h
              exact h
            clear hbit
            generalize lowB ca 0 = cl at *
            go_wp2_with fail
            go_region
            go_wp2_with fail
            all_goals (
              go_roundw
              case rel =>
                have R : ∃ k' : Nat, k' ≤ 4 ∧ Value.int .i64 1 = .int .i64 (k' : Int) ∧ ((w7.setCell ⟨w1.heap.size, 65, none⟩ (.int .i64 (bits .or .i64 cl 1))).drew).heap[w1.heap.size]? = some (.cells (ints (plN bd ((1 : Nat) : Int) (lowB ca k') ep ha fu)) 24 (0, 0)) ∧ ((w7.setCell ⟨w1.heap.size, 65, none⟩ (.int .i64 (bits .or .i64 cl 1))).drew).heap[w.heap.size]? = some (.cells (ints (List.replicate 69 0)) 24 (0, 0)) ∧ ((w7.setCell ⟨w1.heap.size, 65, none⟩ (.int .i64 (bits .or .i64 cl 1))).drew).heap[W5.heap.size]? = some (.cells colC 93 (0, 0)) ∧ Below w.heap.size w ((w7.setCell ⟨w1.heap.size, 65, none⟩ (.int .i64 (bits .or .i64 cl 1))).drew) :=
                  ⟨1, by omega, rfl, by rw [hlk2.out]; exact hall2.out.2.2.2, (heap_setCell_other _ _ _ _ (by show w.heap.size ≠ w1.heap.size; omega)).trans hall2.out.2.1, (heap_setCell_other _ _ _ _ (by show W5.heap.size ≠ w1.heap.size; omega)).trans hall2.out.2.2.1, (hB7.out.setCell (p := ⟨w1.heap.size, 65, none⟩) (by show w.heap.size ≤ w1.heap.size; omega) _).drew⟩
                first | exact R | ((repeat apply Exists.intro); exact ⟨R, rfl⟩)
              case measure => simp [intOf])
          | false =>
            have hlk2 : Shut (lowB ca (0 + 1) = lowB ca 0) := by
              have h := hlk.out
              rw [hbit, if_neg (by decide)] at h
              exact h
            clear hbit
            go_wp2_with fail
            go_roundw
            case rel =>
              have R : ∃ k' : Nat, k' ≤ 4 ∧ Value.int .i64 1 = .int .i64 (k' : Int) ∧ w7.heap[w1.heap.size]? = some (.cells (ints (plN bd ((1 : Nat) : Int) (lowB ca k') ep ha fu)) 24 (0, 0)) ∧ w7.heap[w.heap.size]? = some (.cells (ints (List.replicate 69 0)) 24 (0, 0)) ∧ w7.heap[W5.heap.size]? = some (.cells colC 93 (0, 0)) ∧ Below w.heap.size w w7 := ⟨1, by omega, rfl, by rw [hlk2.out]; exact hall2.out.1, hall2.out.2.1, hall2.out.2.2.1, hB7.out⟩
              first | exact R | ((repeat apply Exists.intro); exact ⟨R, rfl⟩)
            case measure => simp [intOf]
        · have hcol : wr.cell? ⟨W5.heap.size, 1, none⟩ = some (.int .i8 1) := hcs.out 1 (by decide)
          go_wp2_with (first
            | (go_at_call 78; refine (pm_cas pg _ _ c1).mono ?_; rintro e6 w6 ⟨rfl, rfl⟩))
          refine (hck.out 1 2 (by decide) (by decide) _).mono ?_
          rintro e7 w7 ⟨rfl, hb7⟩
          have rN7 := (hb7.block w1.heap.size zN).trans rNs.out
          have r07 := (hb7.block w.heap.size z0).trans r0s.out
          have rC7 := (hb7.block W5.heap.size zC).trans rCs2.out
          have hB7 := lay (hbs.out.trans (hb7.mono hbs.out.size))
          have k65 : w7.cell? ⟨w1.heap.size, 65, none⟩ = some (.int .i64 (lowB ca 1)) := (row_cell rN7 65 (by rw [plN_len _ _ _ _ _ _ hl64]; omega)).trans (by rw [plN_65 _ _ _ _ _ _ hl64])
          have f65 := frozen_of_row w7 w1.heap.size 65 _ _ rN7
          have hset := row_set rN7 65 (bits .or .i64 (lowB ca 1) 2)
          rw [plN_set65 _ _ _ _ _ _ _ hl64] at hset
          have hall2 := lay (And.intro rN7 (And.intro r07 (And.intro rC7 hset)))
          clear rN7 r07 rC7 hset hb7 c1 hcol
          cases hbit : decide (ca.toNat / 2 ^ 1 % 2 = 1) with
          | true =>
            have hlk2 : Shut (lowB ca (1 + 1) = bits .or .i64 (lowB ca 1) 2) := by
              have h := hlk.out
              rw [hbit, if_pos rfl] at h
              exact h
            clear hbit
            generalize lowB ca 1 = cl at *
            go_wp2_with fail
            go_region
            go_wp2_with fail
            all_goals (
              go_roundw
              case rel =>
                have R : ∃ k' : Nat, k' ≤ 4 ∧ Value.int .i64 2 = .int .i64 (k' : Int) ∧ ((w7.setCell ⟨w1.heap.size, 65, none⟩ (.int .i64 (bits .or .i64 cl 2))).drew).heap[w1.heap.size]? = some (.cells (ints (plN bd ((1 : Nat) : Int) (lowB ca k') ep ha fu)) 24 (0, 0)) ∧ ((w7.setCell ⟨w1.heap.size, 65, none⟩ (.int .i64 (bits .or .i64 cl 2))).drew).heap[w.heap.size]? = some (.cells (ints (List.replicate 69 0)) 24 (0, 0)) ∧ ((w7.setCell ⟨w1.heap.size, 65, none⟩ (.int .i64 (bits .or .i64 cl 2))).drew).heap[W5.heap.size]? = some (.cells colC 93 (0, 0)) ∧ Below w.heap.size w ((w7.setCell ⟨w1.heap.size, 65, none⟩ (.int .i64 (bits .or .i64 cl 2))).drew) :=
                  ⟨2, by omega, rfl, by rw [hlk2.out]; exact hall2.out.2.2.2, (heap_setCell_other _ _ _ _ (by show w.heap.size ≠ w1.heap.size; omega)).trans hall2.out.2.1, (heap_setCell_other _ _ _ _ (by show W5.heap.size ≠ w1.heap.size; omega)).trans hall2.out.2.2.1, (hB7.out.setCell (p := ⟨w1.heap.size, 65, none⟩) (by show w.heap.size ≤ w1.heap.size; omega) _).drew⟩
                first | exact R | ((repeat apply Exists.intro); exact ⟨R, rfl⟩)
              case measure => simp [intOf])
          | false =>
            have hlk2 : Shut (lowB ca (1 + 1) = lowB ca 1) := by
              have h := hlk.out
              rw [hbit, if_neg (by decide)] at h
              exact h
            clear hbit
            go_wp2_with fail
            go_roundw
            case rel =>
              have R : ∃ k' : Nat, k' ≤ 4 ∧ Value.int .i64 2 = .int .i64 (k' : Int) ∧ w7.heap[w1.heap.size]? = some (.cells (ints (plN bd ((1 : Nat) : Int) (lowB ca k') ep ha fu)) 24 (0, 0)) ∧ w7.heap[w.heap.size]? = some (.cells (ints (List.replicate 69 0)) 24 (0, 0)) ∧ w7.heap[W5.heap.size]? = some (.cells colC 93 (0, 0)) ∧ Below w.heap.size w w7 := ⟨2, by omega, rfl, by rw [hlk2.out]; exact hall2.out.1, hall2.out.2.1, hall2.out.2.2.1, hB7.out⟩
              first | exact R | ((repeat apply Exists.intro); exact ⟨R, rfl⟩)
            case measure => simp [intOf]
        · have hcol : wr.cell? ⟨W5.heap.size, 2, none⟩ = some (.int .i8 2) := hcs.out 2 (by decide)
          go_wp2_with (first
            | (go_at_call 78; refine (pm_cas pg _ _ c1).mono ?_; rintro e6 w6 ⟨rfl, rfl⟩))
          refine (hck.out 2 1 (by decide) (by decide) _).mono ?_
          rintro e7 w7 ⟨rfl, hb7⟩
          have rN7 := (hb7.block w1.heap.size zN).trans rNs.out
          have r07 := (hb7.block w.heap.size z0).trans r0s.out
          have rC7 := (hb7.block W5.heap.size zC).trans rCs2.out
          have hB7 := lay (hbs.out.trans (hb7.mono hbs.out.size))
          have k65 : w7.cell? ⟨w1.heap.size, 65, none⟩ = some (.int .i64 (lowB ca 2)) := (row_cell rN7 65 (by rw [plN_len _ _ _ _ _ _ hl64]; omega)).trans (by rw [plN_65 _ _ _ _ _ _ hl64])
          have f65 := frozen_of_row w7 w1.heap.size 65 _ _ rN7
          have hset := row_set rN7 65 (bits .or .i64 (lowB ca 2) 4)
          rw [plN_set65 _ _ _ _ _ _ _ hl64] at hset
          have hall2 := lay (And.intro rN7 (And.intro r07 (And.intro rC7 hset)))
          clear rN7 r07 rC7 hset hb7 c1 hcol
          cases hbit : decide (ca.toNat / 2 ^ 2 % 2 = 1) with
          | true =>
            have hlk2 : Shut (lowB ca (2 + 1) = bits .or .i64 (lowB ca 2) 4) := by
              have h := hlk.out
              rw [hbit, if_pos rfl] at h
              exact h
            clear hbit
            generalize lowB ca 2 = cl at *
            go_wp2_with fail
            go_region
            go_wp2_with fail
            all_goals (
              go_roundw
              case rel =>
                have R : ∃ k' : Nat, k' ≤ 4 ∧ Value.int .i64 3 = .int .i64 (k' : Int) ∧ ((w7.setCell ⟨w1.heap.size, 65, none⟩ (.int .i64 (bits .or .i64 cl 4))).drew).heap[w1.heap.size]? = some (.cells (ints (plN bd ((1 : Nat) : Int) (lowB ca k') ep ha fu)) 24 (0, 0)) ∧ ((w7.setCell ⟨w1.heap.size, 65, none⟩ (.int .i64 (bits .or .i64 cl 4))).drew).heap[w.heap.size]? = some (.cells (ints (List.replicate 69 0)) 24 (0, 0)) ∧ ((w7.setCell ⟨w1.heap.size, 65, none⟩ (.int .i64 (bits .or .i64 cl 4))).drew).heap[W5.heap.size]? = some (.cells colC 93 (0, 0)) ∧ Below w.heap.size w ((w7.setCell ⟨w1.heap.size, 65, none⟩ (.int .i64 (bits .or .i64 cl 4))).drew) :=
                  ⟨3, by omega, rfl, by rw [hlk2.out]; exact hall2.out.2.2.2, (heap_setCell_other _ _ _ _ (by show w.heap.size ≠ w1.heap.size; omega)).trans hall2.out.2.1, (heap_setCell_other _ _ _ _ (by show W5.heap.size ≠ w1.heap.size; omega)).trans hall2.out.2.2.1, (hB7.out.setCell (p := ⟨w1.heap.size, 65, none⟩) (by show w.heap.size ≤ w1.heap.size; omega) _).drew⟩
                first | exact R | ((repeat apply Exists.intro); exact ⟨R, rfl⟩)
              case measure => simp [intOf])
          | false =>
            have hlk2 : Shut (lowB ca (2 + 1) = lowB ca 2) := by
              have h := hlk.out
              rw [hbit, if_neg (by decide)] at h
              exact h
            clear hbit
            go_wp2_with fail
            go_roundw
            case rel =>
              have R : ∃ k' : Nat, k' ≤ 4 ∧ Value.int .i64 3 = .int .i64 (k' : Int) ∧ w7.heap[w1.heap.size]? = some (.cells (ints (plN bd ((1 : Nat) : Int) (lowB ca k') ep ha fu)) 24 (0, 0)) ∧ w7.heap[w.heap.size]? = some (.cells (ints (List.replicate 69 0)) 24 (0, 0)) ∧ w7.heap[W5.heap.size]? = some (.cells colC 93 (0, 0)) ∧ Below w.heap.size w w7 := ⟨3, by omega, rfl, by rw [hlk2.out]; exact hall2.out.1, hall2.out.2.1, hall2.out.2.2.1, hB7.out⟩
              first | exact R | ((repeat apply Exists.intro); exact ⟨R, rfl⟩)
            case measure => simp [intOf]
        · have hcol : wr.cell? ⟨W5.heap.size, 3, none⟩ = some (.int .i8 2) := hcs.out 3 (by decide)
          go_wp2_with (first
            | (go_at_call 78; refine (pm_cas pg _ _ c1).mono ?_; rintro e6 w6 ⟨rfl, rfl⟩))
          refine (hck.out 2 2 (by decide) (by decide) _).mono ?_
          rintro e7 w7 ⟨rfl, hb7⟩
          have rN7 := (hb7.block w1.heap.size zN).trans rNs.out
          have r07 := (hb7.block w.heap.size z0).trans r0s.out
          have rC7 := (hb7.block W5.heap.size zC).trans rCs2.out
          have hB7 := lay (hbs.out.trans (hb7.mono hbs.out.size))
          have k65 : w7.cell? ⟨w1.heap.size, 65, none⟩ = some (.int .i64 (lowB ca 3)) := (row_cell rN7 65 (by rw [plN_len _ _ _ _ _ _ hl64]; omega)).trans (by rw [plN_65 _ _ _ _ _ _ hl64])
          have f65 := frozen_of_row w7 w1.heap.size 65 _ _ rN7
          have hset := row_set rN7 65 (bits .or .i64 (lowB ca 3) 8)
          rw [plN_set65 _ _ _ _ _ _ _ hl64] at hset
          have hall2 := lay (And.intro rN7 (And.intro r07 (And.intro rC7 hset)))
          clear rN7 r07 rC7 hset hb7 c1 hcol
          cases hbit : decide (ca.toNat / 2 ^ 3 % 2 = 1) with
          | true =>
            have hlk2 : Shut (lowB ca (3 + 1) = bits .or .i64 (lowB ca 3) 8) := by
              have h := hlk.out
              rw [hbit, if_pos rfl] at h
              exact h
            clear hbit
            generalize lowB ca 3 = cl at *
            go_wp2_with fail
            go_region
            go_wp2_with fail
            all_goals (
              go_roundw
              case rel =>
                have R : ∃ k' : Nat, k' ≤ 4 ∧ Value.int .i64 4 = .int .i64 (k' : Int) ∧ ((w7.setCell ⟨w1.heap.size, 65, none⟩ (.int .i64 (bits .or .i64 cl 8))).drew).heap[w1.heap.size]? = some (.cells (ints (plN bd ((1 : Nat) : Int) (lowB ca k') ep ha fu)) 24 (0, 0)) ∧ ((w7.setCell ⟨w1.heap.size, 65, none⟩ (.int .i64 (bits .or .i64 cl 8))).drew).heap[w.heap.size]? = some (.cells (ints (List.replicate 69 0)) 24 (0, 0)) ∧ ((w7.setCell ⟨w1.heap.size, 65, none⟩ (.int .i64 (bits .or .i64 cl 8))).drew).heap[W5.heap.size]? = some (.cells colC 93 (0, 0)) ∧ Below w.heap.size w ((w7.setCell ⟨w1.heap.size, 65, none⟩ (.int .i64 (bits .or .i64 cl 8))).drew) :=
                  ⟨4, by omega, rfl, by rw [hlk2.out]; exact hall2.out.2.2.2, (heap_setCell_other _ _ _ _ (by show w.heap.size ≠ w1.heap.size; omega)).trans hall2.out.2.1, (heap_setCell_other _ _ _ _ (by show W5.heap.size ≠ w1.heap.size; omega)).trans hall2.out.2.2.1, (hB7.out.setCell (p := ⟨w1.heap.size, 65, none⟩) (by show w.heap.size ≤ w1.heap.size; omega) _).drew⟩
                first | exact R | ((repeat apply Exists.intro); exact ⟨R, rfl⟩)
              case measure => simp [intOf])
          | false =>
            have hlk2 : Shut (lowB ca (3 + 1) = lowB ca 3) := by
              have h := hlk.out
              rw [hbit, if_neg (by decide)] at h
              exact h
            clear hbit
            go_wp2_with fail
            go_roundw
            case rel =>
              have R : ∃ k' : Nat, k' ≤ 4 ∧ Value.int .i64 4 = .int .i64 (k' : Int) ∧ w7.heap[w1.heap.size]? = some (.cells (ints (plN bd ((1 : Nat) : Int) (lowB ca k') ep ha fu)) 24 (0, 0)) ∧ w7.heap[w.heap.size]? = some (.cells (ints (List.replicate 69 0)) 24 (0, 0)) ∧ w7.heap[W5.heap.size]? = some (.cells colC 93 (0, 0)) ∧ Below w.heap.size w w7 := ⟨4, by omega, rfl, by rw [hlk2.out]; exact hall2.out.1, hall2.out.2.1, hall2.out.2.2.1, hB7.out⟩
              first | exact R | ((repeat apply Exists.intro); exact ⟨R, rfl⟩)
            case measure => simp [intOf]
      · obtain rfl : k = 4 := by omega
        have e4 : lowB ca 4 = ca := by unfold lowB; simp; omega
        rw [e4, hall.out] at rN
        have hbs := lay hbr
        have r0s := lay r0
        clear hbr rC
        go_wp2_with (first
          | ((with_reducible refine at_load_row rN Tryz.underlying24 rfl ?_ rfl ?_); (rw [ints_size, hl]; kernel_rfl))
          | ((with_reducible refine at_store_row (ints p) r0s.out ?_ ?_ ?_ ?_ ?_ ?_); (rw [ints_size, hl]; kernel_rfl); (rw [ints_size, ints_size, hl, List.length_replicate]); exact ints_one p; rfl; rfl))
        (try simp only [Exit.inBlock, Exit.then])
        exact bodyPost_ret (results_cell1 rfl _ _ w.heap.size 24 (ints p) (0, 0) _ rfl (setRow_heap _ _ _ (ints p) _ _ r0s.out) Tryz.underlying24 rfl (by rw [ints_size, hl]; kernel_rfl)) rfl ⟨rfl, below_setRow hbs.out (Nat.le_refl _) _⟩
end Go.Proofs.YtnjdgooljnbebaaGreatDoor
namespace Go.Proofs.YtnjdgooljnbebaaGreatDoor
open Go Go.RowKit
set_option maxHeartbeats 1000000
set_option linter.unusedSimpArgs false
set_option linter.unusedVariables false
set_option maxRecDepth 100000

theorem eq_ints_at {P : Program} {t e : TypeId} {n : Nat} {i : TypeInfo} (hu : P.underlying t = some (.array n e)) (hi : P.info? e = some i) (hc : P.cellsOf e = 1) (he : P.underlying e = some (.int .i64)) (d : Nat) (a b : List Int) (ha : a.length = n) (hb : b.length = n) (w : World) :
    (Op.equalIn (d + 2) t (.agg (ints a)) (.agg (ints b))).run P w = .ok (decide (a = b)) w := by
  rw [show d + 2 = (d + 1) + 1 from rfl, run_equalIn_array w (d + 1) _ _ hu hi, hc, eq_items he d a b w _ (fun j hj => by have := List.mem_range.1 hj; omega), all_eq a b n ha hb]
theorem part_arr {P : Program} {t e : TypeId} {n : Nat} (hu : P.underlying t = some (.array n e)) (hi : (P.info? t).map (·.size) = some n) (p : List Int) (w : World) : (part t (ints p) 0).run P w = .ok (.agg (ints (p.take n))) w := by
  have hagg : (isAgg t).run P w = .ok true w := by
    unfold isAgg
    rw [Sem.run_bind, run_underlying hu w]
    simp
  cases hin : P.info? t with
  | none => simp [hin] at hi
  | some it =>
    have hz : it.size = n := by simpa [hin] using hi
    unfold part
    rw [Sem.run_bind, hagg]
    simp [sizeOf, typeInfo, hin, hz]
    apply Array.ext'
    simp [ints, List.extract_eq_take_drop]
theorem six_fields {α : Type} {xs : List α} (h : xs.length = 6) : ∃ y0 y1 y2 y3 y4 y5, xs = [y0, y1, y2, y3, y4, y5] := by
  match xs, h with
  | [y0, y1, y2, y3, y4, y5], _ => exact ⟨y0, y1, y2, y3, y4, y5, rfl⟩
theorem pos_eq (p q : List Int) (hp : p.length = 69) (hq : q.length = 69) : (decide (p.take 64 = q.take 64) && (decide (p.getD 64 0 = q.getD 64 0) && (decide (p.getD 65 0 = q.getD 65 0) && (decide (p.getD 66 0 = q.getD 66 0) && (decide (p.getD 67 0 = q.getD 67 0) && decide (p.getD 68 0 = q.getD 68 0)))))) = decide (p = q) := by
  rw [Bool.eq_iff_iff]
  simp only [Bool.and_eq_true, decide_eq_true_eq]
  constructor
  · rintro ⟨h0, h1, h2, h3, h4, h5⟩
    apply List.ext_getElem (by omega)
    intro i i1 i2
    by_cases h : i < 64
    · have := congrArg (fun l => l[i]?) h0
      simpa [List.getElem?_take, h, i1, i2] using this
    · have g : ∀ j, j < 69 → p.getD j 0 = q.getD j 0 → p[j]? = q[j]? := fun j hj e => by
        have a1 : j < p.length := by omega
        have a2 : j < q.length := by omega
        simpa [List.getD, a1, a2] using e
      have e : p[i]? = q[i]? := by
        rcases (show i = 64 ∨ i = 65 ∨ i = 66 ∨ i = 67 ∨ i = 68 by omega) with rfl | rfl | rfl | rfl | rfl
        · exact g 64 (by omega) h1
        · exact g 65 (by omega) h2
        · exact g 66 (by omega) h3
        · exact g 67 (by omega) h4
        · exact g 68 (by omega) h5
      simpa [i1, i2] using e
  · rintro rfl
    exact ⟨rfl, rfl, rfl, rfl, rfl, rfl⟩
theorem ep_eq (p q : List Int) (hp : p.length = 69) (hq : q.length = 69) (w : World) : (Op.equalIn 10000 24 (.agg (ints p)) (.agg (ints q))).run Tryz.prog w = .ok (decide (p = q)) w := by
  obtain ⟨i0, hi, hz0, hz1, hz2⟩ := info_parts (show (Tryz.prog.info? 3).map (fun i => (i.zero, i.size, i.bytes)) = some (some (.int .i64 0), 1, 8) by kernel_rfl)
  have hf : ((Tryz.prog.fieldsOf 24).toList.map fun f => (decide (f.name = "_"), f.type, f.offset)) = [(false, 22, 0), (false, 3, 64), (false, 3, 65), (false, 3, 66), (false, 3, 67), (false, 3, 68)] := by kernel_rfl
  have hu : Tryz.prog.underlying 24 = some (.struct (Tryz.prog.fieldsOf 24)) := by kernel_rfl
  have hint : Tryz.prog.underlying 3 = some (.int .i64) := Tryz.underlying3
  rw [show (10000 : Nat) = 9999 + 1 from rfl, run_equalIn_struct w 9999 _ _ _ hu (by kernel_rfl)]
  generalize (Tryz.prog.fieldsOf 24).toList = fs at hf
  obtain ⟨f0, f1, f2, f3, f4, f5, rfl⟩ := six_fields (xs := fs) (by simpa using congrArg List.length hf)
  simp only [List.map_cons, List.map_nil, List.cons.injEq, Prod.mk.injEq, decide_eq_false_iff_not, and_true] at hf
  obtain ⟨⟨n0, t0, o0⟩, ⟨n1, t1, o1⟩, ⟨n2, t2, o2⟩, ⟨n3, t3, o3⟩, ⟨n4, t4, o4⟩, ⟨n5, t5, o5⟩⟩ := hf
  have ha := fun (V : World) (x : List Int) => part_arr (P := Tryz.prog) Tryz.underlying22 (by kernel_rfl) x V
  have he := fun (V : World) => eq_ints_at (P := Tryz.prog) Tryz.underlying22 hi (by kernel_rfl) hint 9997 (p.take 64) (q.take 64) (by simp [hp]) (by simp [hq]) V
  have hpi := fun (V : World) (x : List Int) (j : Nat) (hj : j < x.length) => part_int (P := Tryz.prog) hint x j hj V
  have hqi := fun (V : World) (a b : Int) => run_equalIn_int (P := Tryz.prog) V 9998 3 .i64 .i64 a b hint
  rw [← pos_eq p q hp hq]
  simp only [Op.eqFields, n0, n1, n2, n3, n4, n5, t0, t1, t2, t3, t4, t5, o0, o1, o2, o3, o4, o5, ne_eq, not_false_eq_true, if_true, Sem.run_bind, ha, Result.andThen_ok, he]
  cases decide (p.take 64 = q.take 64)
  · simp
  have e64 : (p.getD 64 0 == q.getD 64 0) = decide (p.getD 64 0 = q.getD 64 0) := by rw [Bool.eq_iff_iff]; simp
  simp only [Bool.not_true, Bool.false_eq_true, if_false, Bool.true_and, Sem.run_bind, hpi w p 64 (by omega), hpi w q 64 (by omega), Result.andThen_ok, hqi, e64]
  cases decide (p.getD 64 0 = q.getD 64 0)
  · simp
  have e65 : (p.getD 65 0 == q.getD 65 0) = decide (p.getD 65 0 = q.getD 65 0) := by rw [Bool.eq_iff_iff]; simp
  simp only [Bool.not_true, Bool.false_eq_true, if_false, Bool.true_and, Sem.run_bind, hpi w p 65 (by omega), hpi w q 65 (by omega), Result.andThen_ok, hqi, e65]
  cases decide (p.getD 65 0 = q.getD 65 0)
  · simp
  have e66 : (p.getD 66 0 == q.getD 66 0) = decide (p.getD 66 0 = q.getD 66 0) := by rw [Bool.eq_iff_iff]; simp
  simp only [Bool.not_true, Bool.false_eq_true, if_false, Bool.true_and, Sem.run_bind, hpi w p 66 (by omega), hpi w q 66 (by omega), Result.andThen_ok, hqi, e66]
  cases decide (p.getD 66 0 = q.getD 66 0)
  · simp
  have e67 : (p.getD 67 0 == q.getD 67 0) = decide (p.getD 67 0 = q.getD 67 0) := by rw [Bool.eq_iff_iff]; simp
  simp only [Bool.not_true, Bool.false_eq_true, if_false, Bool.true_and, Sem.run_bind, hpi w p 67 (by omega), hpi w q 67 (by omega), Result.andThen_ok, hqi, e67]
  cases decide (p.getD 67 0 = q.getD 67 0)
  · simp
  have e68 : (p.getD 68 0 == q.getD 68 0) = decide (p.getD 68 0 = q.getD 68 0) := by rw [Bool.eq_iff_iff]; simp
  simp only [Bool.not_true, Bool.false_eq_true, if_false, Bool.true_and, Sem.run_bind, hpi w p 68 (by omega), hpi w q 68 (by omega), Result.andThen_ok, hqi, e68]
  cases decide (p.getD 68 0 = q.getD 68 0)
  · simp
  simp
end Go.Proofs.YtnjdgooljnbebaaGreatDoor
