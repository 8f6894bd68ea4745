/- FnMvPly: impl.Ply and the law. For every position.
FnBiAttacked: impl.Attacked. For every position, and squares from 0 to 63.
FnBiAttacked: the law. For every position and every list of bytes. (Printed by gen_bw.py.) -/
import Derived.Test.YtplkcmlpomjojaaDoorGe
import Derived.Test.YtplkcmlpomjojaaDoorGh
import Derived.Test.YtplkcmlpomjojaaDoorGg
-- Py
namespace Go.Proofs.YtplkcmlpomjojaaDoor
open Go Go.RowKit
set_option maxHeartbeats 4000000
set_option linter.unusedSimpArgs false
set_option linter.unusedVariables false
set_option maxRecDepth 100000

theorem py_idle (p q : Addr) (w : World) :
    CallsD Tryd.prog 20 #[.pointer (some p), .pointer (some q)] .returning w fun e u' w' => e = .returned (.tuple #[]) ∧ u' = .returning ∧ w = w' := by
  refine callsD_of_wpS Tryd.func20 rfl fun c₀ cs hu => ?_
  apply wpS_seq
  apply wpS_region
  simp [wpOpsS, go_sem, recoverD, hu, Tryd.ntmps20, Exit.thenS]
  refine wpS_cond (t := false) (by simp [Act.eval, Array.replicate]) ?_
  simp only [Bool.false_eq_true, if_false]
  refine wpS_of_wp (wp_skip ?_)
  cases c₀
  simp_all [bodyPostS, results, Tryd.results20]
/-- A position as an argument, and two variables of one cell behind it. -/
def pyW (w : World) (p : List Int) (x y : Value) (tx ty : TypeId) : World := ((w.alloc (.cells (ints p) 24)).alloc (.cells #[x] tx)).alloc (.cells #[y] ty)
theorem pyW_rows (w : World) (p : List Int) (x y : Value) (tx ty : TypeId) : PosAt p w.heap.size (pyW w p x y tx ty) ∧ (pyW w p x y tx ty).heap[w.heap.size + 1]? = some (.cells #[x] tx (0, 0)) ∧
    (pyW w p x y tx ty).heap[w.heap.size + 1 + 1]? = some (.cells #[y] ty (0, 0)) ∧ Below w.heap.size w (pyW w p x y tx ty) ∧ (pyW w p x y tx ty).heap.size = w.heap.size + 3 := by
  refine ⟨heap_keep (heap_alloc2_old w _ _), heap_keep (heap_alloc2_new w _ _), heap_at _ _ _ (by simp), ?_, by simp [pyW]⟩
  exact (((Below.refl _ _).alloc (Nat.le_refl _) _).alloc (by simp) _).alloc (by simp; omega) _
theorem py_impl (p : List Int) (tn : Nat) (hs : Sound p tn) (hh : p.getD 67 0 ≤ 1000000) (hf : p.getD 68 0 ≤ 1000000) (w : World) (hT : Tabs w) (hA : IntSl w 6 .i8 allL) :
    Calls Tryd.prog 9 #[.agg (ints p)] w fun e w' => e = .returned (.tuple #[.int .i64 (2 * p.getD 68 0 - 1 + tn), .bool true]) ∧ Below w.heap.size w w' := by
  have hl := hs.pos.len
  have hmf := makeFunc_run Tryd.prog
  obtain ⟨hr0, hr1, hr2, hBW, hsz⟩ := pyW_rows w p (.int .i64 0) (.bool false) 3 4
  have hr0' : (pyW w p (.int .i64 0) (.bool false) 3 4).heap[w.heap.size]? = some (.cells (ints p) 24 (0, 0)) := hr0
  have hpz := lay (pz_position p tn hs hh hf (pyW w p (.int .i64 0) (.bool false) 3 4) (hT.below hBW (Nat.le_refl _)) (hA.below hBW))
  have htn := hs.one
  have hfu := hs.fu
  have hpl := lay (fun (pg : Nat) (w : World) c4 c5 => pl_ply pg tn htn (p.getD 68 0) hfu hf w c4 c5)
  have hss := lay hs
  clear hs hT hA
  generalize hfd : p.getD 68 0 = fu at *
  have hfs := lay hfd
  clear hfd
  go_enter_defers Tryd.func9, Tryd.ntmps9
  go_wp2_with (with_reducible refine at_load_row hr0' Tryd.underlying24 rfl ?_ rfl ?_; (rw [ints_size, hl]; kernel_rfl))
  change Calls _ _ _ (pyW w p (.int .i64 0) (.bool false) 3 4) _
  generalize pyW w p (.int .i64 0) (.bool false) 3 4 = W at *
  refine hpz.out.mono ?_
  rintro e1 w1 ⟨v, rfl, pg, bg, rfl, hge, hE, hb1⟩
  have c4 : w1.cell? ⟨pg, 4, none⟩ = some (.int .i64 (p.getD 68 0)) := cell_of_row w1 pg 4 _ _ _ hE.ps
  have c5 : w1.cell? ⟨pg, 5, none⟩ = some (.int .i8 ((tn : Int) + 1)) := cell_of_row w1 pg 5 _ _ _ hE.ps
  rw [hfs.out] at c4
  have r1 := (hb1.block (w.heap.size + 1) (by omega)).trans hr1
  have r2 := (hb1.block (w.heap.size + 1 + 1) (by omega)).trans hr2
  have hBw := hBW.trans (hb1.mono hBW.size)
  have k0 : w1.cell? ⟨w.heap.size + 1, 0, none⟩ = some (.int .i64 0) := cell_of_row w1 _ 0 _ _ _ r1
  have k1 : w1.cell? ⟨w.heap.size + 1 + 1, 0, none⟩ = some (.bool false) := cell_of_row w1 _ 0 _ _ _ r2
  have k2 := frozen_of_row w1 (w.heap.size + 1) 0 _ _ r1
  have k3 := frozen_of_row w1 (w.heap.size + 1 + 1) 0 _ _ r2
  have hBs := lay hBw
  clear hr0 hr0' hr1 hr2 r1 r2 hb1 hE hBw hBW hsz hge
  go_wp2_with (first | (go_at_call 21; refine (hpl.out pg _ c4 c5).mono ?_; rintro e2 w2 ⟨rfl, rfl⟩))
  refine leaves_cons (f := 20) (args := #[.pointer (some ⟨w.heap.size + 1, 0, none⟩), .pointer (some ⟨w.heap.size + 1 + 1, 0, none⟩)]) (by simp) (by simp [go_sem]) ?_
  refine (py_idle _ _ _).mono ?_
  rintro e u' w'' ⟨rfl, rfl, rfl⟩
  simp [Leaves, settle, results, Tryd.results9, go_sem, k0, k1]
  exact (hBs.out.setCell (p := ⟨w.heap.size + 1, 0, none⟩) (by simp) _).setCell (p := ⟨w.heap.size + 1 + 1, 0, none⟩) (by first | (simp; done) | (simp; omega)) _
theorem py_law (p : List Int) (hl : p.length = 69) (w : World) (hfi : IntTab w 5 .u64 (tabZ bbFilesL)) (hra : IntTab w 4 .u64 (tabZ bbRanksL)) (hdi : IntTab w 2 .u64 (tabZ bbDiagonalsL)) (han : IntTab w 3 .u64 (tabZ bbAntiDiagonalsL)) (hkn : IntTab w 0 .u64 (tabZ bbKnightMovesL)) (hki : IntTab w 1 .u64 (tabZ bbKingMovesL)) (hA : IntSl w 6 .i8 allL) :
    Calls Tryd.prog 4 #[.agg (ints p)] w fun e w' => e = .returned (.bool true) ∧ Below w.heap.size w w' := by
  have hT : Tabs w := ⟨hki, hkn, hdi, han, hfi, hra⟩
  clear hfi hra hdi han hkn hki
  have hBW : Below w.heap.size w (w.alloc (.cells (ints p) 24)) := (Below.refl _ _).alloc (Nat.le_refl _) _
  have hrow0 : PosAt p w.heap.size (w.alloc (.cells (ints p) 24)) := heap_alloc_new w (.cells (ints p) 24)
  have hrow : (w.alloc (.cells (ints p) 24)).heap[w.heap.size]? = some (.cells (ints p) 24 (0, 0)) := hrow0
  have hTs := lay (hT.below hBW (Nat.le_refl _))
  have hAs := lay (hA.below hBW)
  have hR0 := lay hrow0
  have hRt := lay (fun W => rt_right p hl W)
  have hBs := lay hBW
  clear hT hA hBW hrow0
  cases hask : askedB p with
  | false =>
    have hasks := lay hask
    clear hask
    go_enter Tryd.func4, Tryd.ntmps4
    go_wp2_with (first
      | ((with_reducible refine at_load_row hrow Tryd.underlying24 rfl ?_ ?_ ?_); (rw [ints_size, hl]; kernel_rfl); rfl)
      | (go_at_call 6; refine (hRt.out _).mono ?_; rintro e1 w1 ⟨rfl, hb1⟩; rw [hasks.out]))
    go_ret
    exact ⟨rfl, hBs.out.trans (hb1.mono hBs.out.size)⟩
  | true =>
    obtain ⟨tn, hs⟩ := valid_sound p hl (askedB_valid hask)
    have h67 := askedB_hf hask
    have h68 := askedB_fu hask
    have hasks := lay hask
    have hfu := hs.fu
    have hone := hs.one
    have hI := lay (fun (W : World) hT hA => py_impl p tn hs (by omega) (by omega) W hT hA)
    have c68 := lay (fun (V : World) (hV : PosAt p w.heap.size V) => hV.cell 68 (by omega))
    have c64 := lay (fun (V : World) (hV : PosAt p w.heap.size V) => (hV.cell 64 (by omega)).trans (by rw [hs.turn]))
    clear hask hs h67
    generalize hfd : p.getD 68 0 = fu at *
    have hfs := lay hfd
    clear hfd
    go_enter Tryd.func4, Tryd.ntmps4
    go_wp2_with (first
      | ((with_reducible refine at_load_row hrow Tryd.underlying24 rfl ?_ ?_ ?_); (rw [ints_size, hl]; kernel_rfl); rfl))
    refine (hRt.out _).mono ?_
    rintro e1 w1 ⟨rfl, hb1⟩
    rw [hasks.out]
    have hR1 : PosAt p w.heap.size w1 := hR0.out.below hb1
    have hrow1 : w1.heap[w.heap.size]? = some (.cells (ints p) 24 (0, 0)) := hR1
    have hi1 := lay (hI.out w1 (hTs.out.below hb1 (Nat.le_refl _)) (hAs.out.below hb1))
    have hB1 := lay (hBs.out.trans (hb1.mono hBs.out.size))
    have hR1s := lay hR1
    clear hb1 hrow hR1
    go_wp2_with (first
      | ((with_reducible refine at_load_row hrow1 Tryd.underlying24 rfl ?_ ?_ ?_); (rw [ints_size, hl]; kernel_rfl); rfl))
    refine hi1.out.mono ?_
    rintro e2 w2 ⟨rfl, hb2⟩
    have hR2 : PosAt p w.heap.size w2 := hR1s.out.below hb2
    have k68 := c68.out w2 hR2
    have k64 := c64.out w2 hR2
    have hB2 := lay (hB1.out.trans (hb2.mono hB1.out.size))
    clear hb2 hrow1 hR2
    go_wp2_with fail
    go_ret
    exact ⟨rfl, hB2.out⟩
end Go.Proofs.YtplkcmlpomjojaaDoor
-- Ba
namespace Go.Proofs.YtplkcmlpomjojaaDoor
open Go Go.RowKit
set_option maxHeartbeats 4000000
set_option linter.unusedSimpArgs false
set_option linter.unusedVariables false
set_option maxRecDepth 100000

theorem ba_square (s : Int) (w : World) (h0 : 0 ≤ s) (h1 : s ≤ 63) :
    Calls Tryd.prog 17 #[.int .i64 s] w fun e w' => e = .returned (.int .i8 s) ∧ w = w' := by
  have hw : IntKind.i8.wrap s = s := wrap_i8 s (by omega) (by omega)
  go_enter Tryd.func17, Tryd.ntmps17
  go_wp2
  go_ret
  exact ⟨rfl, rfl⟩
theorem EngPos.eng {p : List Int} {tn pg bg : Nat} {w : World} (h : EngPos p tn pg bg w) (hT : Tabs w) (hA : IntSl w 6 .i8 allL) : EngAt p tn pg bg w :=
  ⟨cell_of_row w pg 0 _ _ _ h.ps, cell_of_row w pg 5 _ _ _ h.ps, h.bd, hT, hA⟩
/-- None of no squares. -/
theorem sa_none (p : List Int) (tn : Nat) (htn : tn ≤ 1) (pg bg : Nat) (w : World) (hE : EngAt p tn pg bg w) :
    Calls Tryd.prog 35 #[.pointer (some ⟨pg, 0, none⟩), .slice none 0 0] w fun e w' => e = .returned (.bool false) ∧ w = w' := by
  have hT0 := lay (da_turn pg _ w hE.c5)
  have c14 := (cell_of_row w bg 14 _ _ _ hE.bd).trans (brd_emp p)
  have hp0 := hE.c0
  clear hE
  go_enter Tryd.func35, Tryd.ntmps35
  go_wp2_with (first
    | (go_at_call 48; refine hT0.out.mono ?_; rintro e1 w1 ⟨rfl, rfl⟩)
    | (go_at_call 49; refine (da_other (tn : Int) _ (by omega) (by omega)).mono ?_; rintro e1 w1 ⟨rfl, rfl⟩))
  go_loopw [33] (fun i wr => i = .int .i64 0 ∧ wr = w) (fun i _ => 0)
  case atStart => exact ⟨rfl, rfl⟩
  case round =>
    obtain ⟨rfl, rfl⟩ := hrel
    go_wp2_with fail
    go_ret
    exact ⟨rfl, rfl⟩
def sqV (l : List Nat) : List Value := l.map fun s => .int .i8 ((s : Nat) : Int)
theorem sa_own (p : List Int) (hp : Pos p) (tn : Nat) (htn : tn ≤ 1) (pg bg : Nat) (w : World) (hE : EngAt p tn pg bg w) (l : List Nat) (hl : ∀ s ∈ l, s < 64) (hll : l.length ≤ 64) (base : Nat) (v : Value) (hv : w.ownsRow base 41 1 v l.length (sqV l)) :
    Calls Tryd.prog 35 #[.pointer (some ⟨pg, 0, none⟩), v] w fun e w' => e = .returned (.bool (l.any fun s => attackedB p s (1 - (tn : Int)))) ∧ Below w.heap.size w w' := by
  have hany : l.any (engB p tn) = l.any fun s => attackedB p s (1 - (tn : Int)) := by
    rw [Bool.eq_iff_iff, List.any_eq_true, List.any_eq_true]
    constructor
    · rintro ⟨s, hs, h⟩; exact ⟨s, hs, by rw [← eng_attacked p hp tn htn s (hl s hs)]; exact h⟩
    · rintro ⟨s, hs, h⟩; exact ⟨s, hs, by rw [eng_attacked p hp tn htn s (hl s hs)]; exact h⟩
  have hf := hv
  obtain ⟨hn, ⟨rfl, h0⟩ | ⟨g, cap, cur, rfl, hge, hg, _⟩⟩ := hv
  · have : l = [] := List.eq_nil_of_length_eq_zero h0
    subst this
    refine (sa_none p tn htn pg bg w hE).mono ?_
    rintro e w' ⟨rfl, rfl⟩
    exact ⟨rfl, Below.refl _ _⟩
  · refine (sa_attacked p tn htn pg bg w hE l hl hll g cap (fun i hi => ?_)).mono ?_
    · have hc := hf.cellAt i (by omega)
      exact hc.trans (by simp [sqV, hi])
    · rintro e w' ⟨rfl, m, rfl⟩
      rw [hany]
      exact ⟨rfl, drewN_below w m⟩
theorem ba_door (x v : Value) (w : World) {r : Bool} (h : Calls Tryd.prog 35 #[x, v] w fun e w' => e = .returned (.bool r) ∧ Below w.heap.size w w') :
    Calls Tryd.prog 18 #[x, v] w fun e w' => e = .returned (.bool r) ∧ Below w.heap.size w w' := by
  have hs := lay h
  clear h
  go_enter Tryd.func18, Tryd.ntmps18
  go_wp2_with (go_at_call 35; refine hs.out.mono ?_; rintro e1 w1 ⟨rfl, hb1⟩)
  go_ret
  exact ⟨rfl, hb1⟩
theorem ba_idle (p q : Addr) (w : World) :
    CallsD Tryd.prog 16 #[.pointer (some p), .pointer (some q)] .returning w fun e u' w' => e = .returned (.tuple #[]) ∧ u' = .returning ∧ w = w' := by
  refine callsD_of_wpS Tryd.func16 rfl fun c₀ cs hu => ?_
  apply wpS_seq
  apply wpS_region
  simp [wpOpsS, go_sem, recoverD, hu, Tryd.ntmps16, Exit.thenS]
  refine wpS_cond (t := false) (by simp [Act.eval, Array.replicate]) ?_
  simp only [Bool.false_eq_true, if_false]
  refine wpS_of_wp (wp_skip ?_)
  cases c₀
  simp_all [bodyPostS, results, Tryd.results16]
theorem sq_info : (Tryd.prog.info? 41).map (fun i => (i.zero, i.size, i.bytes)) = some (some (.int .i8 0), 1, 1) := by kernel_rfl
theorem sqV_take (l : List Nat) (k : Nat) (hk : k < l.length) : sqV (l.take (k + 1)) = sqV (l.take k) ++ [.int .i8 ((l.getD k 0 : Nat) : Int)] := by
  unfold sqV
  rw [List.take_succ_eq_append_getElem hk, List.map_append]
  simp [hk]
theorem own_below {w w' : World} {base : Nat} {e : TypeId} {size : Nat} {v : Value} {n : Nat} {xs : List Value} (h : w.ownsRow base e size v n xs) (hb : Below w.heap.size w w') : w'.ownsRow base e size v n xs := by
  obtain ⟨h1, h2 | ⟨g, cap, cur, a1, b, c, d⟩⟩ := h
  · exact ⟨h1, Or.inl h2⟩
  · exact ⟨h1, Or.inr ⟨g, cap, cur, a1, b, (hb.block g (Array.getElem?_eq_some_iff.1 c).1).trans c, d⟩⟩
theorem ba_impl (p : List Int) (tn : Nat) (hs : Sound p tn) (hh : p.getD 67 0 ≤ 1000000) (hf : p.getD 68 0 ≤ 1000000) (l : List Nat) (hl : ∀ s ∈ l, s < 64) (hll : l.length ≤ 64) (w : World) (hT : Tabs w) (hA : IntSl w 6 .i8 allL)
    (base : Nat) (v : Value) (hv : ownInts w base v (l.map Int.ofNat)) :
    Calls Tryd.prog 8 #[.agg (ints p), v] w fun e w' => e = .returned (.tuple #[.bool (l.any fun s => attackedB p s (1 - (tn : Int))), .bool true]) ∧ Below w.heap.size w w' := by
  have hlp := hs.pos.len
  have hmf := makeFunc_run Tryd.prog
  obtain ⟨i0, hi, hz0, hz1, hz2⟩ := info_parts sq_info
  obtain ⟨a, c, rfl, hcv⟩ := ints_slice hv
  rw [List.length_map] at hcv
  obtain ⟨hr0, hr1, hr2, hBW, hsz⟩ := pyW_rows w p (.bool false) (.bool false) 4 4
  have hpz := lay (fun (W : World) hT hA => pz_position p tn hs hh hf W hT hA)
  have htn := hs.one
  have hsa := lay (fun (pg bg : Nat) (W : World) hE (base : Nat) (u : Value) hv => sa_own p hs.pos tn htn pg bg W hE l hl hll base u hv)
  have hTs := lay (hT.below hBW (Nat.le_refl _))
  have hAs := lay (hA.below hBW)
  have hr0s := lay hr0
  have hr1s := lay hr1
  have hr2s := lay hr2
  have hBs := lay hBW
  have hls := lay hl
  have hcs : Shut (∀ (W' : World), Below w.heap.size w W' → ∀ i, i < l.length → ∃ g, a = some ⟨g, 0, none⟩ ∧ W'.cell? ⟨g, i, none⟩ = some (.int .i64 ((l.getD i 0 : Nat) : Int))) := by
    intro W' hb i hi'
    obtain ⟨g, h1, _, h2, h3⟩ := hcv i hi'
    refine ⟨g, h1, (hb.cell (p := ⟨g, i, none⟩) h2).trans (h3.trans ?_)⟩
    simp [hi']
  have hln : (List.map Int.ofNat l).length = l.length := by simp
  rw [hln]
  clear hs hT hA hl hv hcv hr0 hr1 hr2 hBW hln
  generalize (l.any fun s => attackedB p s (1 - (tn : Int))) = res at *
  go_enter_defers Tryd.func8, Tryd.ntmps8
  go_wp2_with fail
  change Code.wp _ _ _ _ (pyW w p (.bool false) (.bool false) 4 4)
  generalize pyW w p (.bool false) (.bool false) 4 4 = W at *
  go_loopw [6, 12] (fun u i wr => ∃ k : Nat, k ≤ l.length ∧ i = .int .i64 (k : Int) ∧ wr.ownsRow W.heap.size 41 1 u (l.take k).length (sqV (l.take k)) ∧ Below W.heap.size W wr) (fun _ i _ => (l.length - (intOf i).toNat))
  case atStart => exact ⟨0, by omega, rfl, World.ownsRow_nil _ _ _ _, Below.refl _ _⟩
  case round =>
    obtain ⟨k, hk, rfl, hown, hbr⟩ := hrel
    by_cases hlt : k < l.length
    · obtain ⟨g, rfl, hcell⟩ := hcs.out wr (hBs.out.trans (hbr.mono hBs.out.size)) k hlt
      have h64 : l.getD k 0 < 64 := hls.out _ (by simp [hlt])
      have hstep := lay (sqV_take l k hlt)
      have hlk : (l.take k).length ≤ 1000000 := by simp; omega
      have hbs := lay hbr
      have hbsz := hbr.size
      clear hbr
      generalize hsd : l.getD k 0 = s at *
      clear hsd
      go_wp2_with (first
        | (go_at_call 17; refine (ba_square _ _ (by omega) (by omega)).mono ?_; rintro e1 w1 ⟨rfl, rfl⟩)
        | (with_reducible refine at_append1 Tryd.underlying39 hi hz0 hz1 hz2 rfl (by decide) rfl W.heap.size _ _ _ hown hlk hbsz ?_ ?_ ?_))
      · rfl
      · rfl
      · intro v' w' hown' hb'
        have hb2 := lay (hbs.out.trans hb')
        have hown2 : Shut (w'.ownsRow W.heap.size 41 1 v' (l.take (k + 1)).length (sqV (l.take (k + 1)))) := by
          rw [hstep.out, List.length_take_of_le (by omega)]
          rw [List.length_take_of_le (by omega)] at hown'
          exact hown'
        clear hown hown' hb'
        go_wp2_with fail
        go_roundw
        case rel => exact ⟨k + 1, by omega, by go_num, hown2.out, hb2.out⟩
        case measure => simp [intOf]; omega
    · obtain rfl : k = l.length := by omega
      rw [List.take_length] at hown
      have hB2 := hBs.out.trans (hbr.mono hBs.out.size)
      have hrow := (hr0s.out.below hbr : PosAt p w.heap.size wr)
      have hrow' : wr.heap[w.heap.size]? = some (.cells (ints p) 24 (0, 0)) := hrow
      have hTr := hTs.out.below hbr (Nat.le_refl _)
      have hAr := hAs.out.below hbr
      have hP := lay (hpz.out wr hTr hAr)
      have r1 := (hbr.block (w.heap.size + 1) (by omega)).trans hr1s.out
      have r2 := (hbr.block (w.heap.size + 1 + 1) (by omega)).trans hr2s.out
      have hbsz := hbr.size
      have hall := lay (And.intro hown (And.intro hB2 (And.intro hTr (And.intro hAr (And.intro r1 r2)))))
      clear hown hB2 hTr hAr r1 r2 hbr hrow
      go_wp2_with (with_reducible refine at_load_row hrow' Tryd.underlying24 rfl ?_ rfl ?_; (rw [ints_size, hlp]; kernel_rfl))
      refine hP.out.mono ?_
      rintro e1 w1 ⟨v1, rfl, pg, bg, rfl, hge, hE, hb1⟩
      obtain ⟨hown, hB2, hTr, hAr, r1, r2⟩ := hall.out
      have hS := lay (hsa.out pg bg w1 (hE.eng (hTr.below hb1 (Nat.le_refl _)) (hAr.below hb1)) W.heap.size _ (own_below hown hb1))
      have q1 := (hb1.block (w.heap.size + 1) (by omega)).trans r1
      have q2 := (hb1.block (w.heap.size + 1 + 1) (by omega)).trans r2
      have hB3 := lay (And.intro (hB2.trans (hb1.mono hB2.size)) (And.intro q1 q2))
      have hsz1 := hb1.size
      clear hb1 hE hown hB2 hTr hAr r1 r2 q1 q2 hrow' hge
      go_wp2_with fail
      refine (ba_door _ _ _ hS.out).mono ?_
      rintro e2 w2 ⟨rfl, hb2⟩
      obtain ⟨hB3, q1, q2⟩ := hB3.out
      have r1 := (hb2.block (w.heap.size + 1) (by omega)).trans q1
      have r2 := (hb2.block (w.heap.size + 1 + 1) (by omega)).trans q2
      have k0 : w2.cell? ⟨w.heap.size + 1, 0, none⟩ = some (.bool false) := cell_of_row w2 _ 0 _ _ _ r1
      have k1 : w2.cell? ⟨w.heap.size + 1 + 1, 0, none⟩ = some (.bool false) := cell_of_row w2 _ 0 _ _ _ r2
      have k2 := frozen_of_row w2 (w.heap.size + 1) 0 _ _ r1
      have k3 := frozen_of_row w2 (w.heap.size + 1 + 1) 0 _ _ r2
      have hB4 := lay (hB3.trans (hb2.mono hB3.size))
      clear hB3 q1 q2 r1 r2 hb2
      go_wp2_with fail
      refine leaves_cons (f := 16) (args := #[.pointer (some ⟨w.heap.size + 1, 0, none⟩), .pointer (some ⟨w.heap.size + 1 + 1, 0, none⟩)]) (by simp) (by simp [go_sem]) ?_
      refine (ba_idle _ _ _).mono ?_
      rintro e u' w'' ⟨rfl, rfl, rfl⟩
      simp [Leaves, settle, results, Tryd.results8, go_sem, k0, k1]
      exact (hB4.out.setCell (p := ⟨w.heap.size + 1, 0, none⟩) (by simp) _).setCell (p := ⟨w.heap.size + 1 + 1, 0, none⟩) (by first | (simp; done) | (simp; omega)) _
end Go.Proofs.YtplkcmlpomjojaaDoor
-- Bw
namespace Go.Proofs.YtplkcmlpomjojaaDoor
open Go Go.RowKit
set_option maxHeartbeats 8000000
set_option linter.unusedSimpArgs false
set_option linter.unusedVariables false
set_option maxRecDepth 100000

/-- The squares that bytes tell. -/
def sqN (zs : List Int) : List Nat := zs.map fun z => (z % 64).toNat
theorem sqN_take (zs : List Int) (k : Nat) (hk : k < zs.length) : ((sqN zs).take (k + 1)) = (sqN zs).take k ++ [(zs.getD k 0 % 64).toNat] := by
  unfold sqN
  rw [List.take_succ_eq_append_getElem (by simpa using hk)]
  simp [hk]
theorem sqN_lt (zs : List Int) : ∀ s ∈ sqN zs, s < 64 := by
  intro s hs
  obtain ⟨z, _, rfl⟩ := List.mem_map.1 hs
  omega
theorem mod64 (z : Int) (h0 : 0 ≤ z) (h1 : z ≤ 255) : IntKind.u8.wrap (z.tmod 64) = z % 64 ∧ IntKind.i64.wrap (z % 64) = z % 64 := by
  have : z.tmod 64 = z % 64 := Int.tmod_eq_emod_of_nonneg h0
  rw [this]
  constructor
  · rw [IntKind.wrap_u8]; omega
  · rw [IntKind.wrap_i64]; omega
theorem bw_law (p : List Int) (v : Value) (zs : List Int) (hl : p.length = 69) (hzb : ∀ i, i < zs.length → 0 ≤ zs.getD i 0 ∧ zs.getD i 0 ≤ 255) (w : World) (hz : ArgB w v zs) (hfi : IntTab w 5 .u64 (tabZ bbFilesL)) (hra : IntTab w 4 .u64 (tabZ bbRanksL)) (hdi : IntTab w 2 .u64 (tabZ bbDiagonalsL)) (han : IntTab w 3 .u64 (tabZ bbAntiDiagonalsL)) (hkn : IntTab w 0 .u64 (tabZ bbKnightMovesL)) (hki : IntTab w 1 .u64 (tabZ bbKingMovesL)) (hA : IntSl w 6 .i8 allL) :
    Calls Tryd.prog 3 #[.agg (ints p), v] w fun e w' => e = .returned (.bool true) ∧ Below w.heap.size w w' := by
  have hT : Tabs w := ⟨hki, hkn, hdi, han, hfi, hra⟩
  clear hfi hra hdi han hkn hki
  obtain ⟨i0, hi, hz0, hz1, hz2⟩ := info_parts (show (Tryd.prog.info? 3).map (fun i => (i.zero, i.size, i.bytes)) = some (some (.int .i64 0), 1, 8) by kernel_rfl)
  have hBW : Below w.heap.size w (w.alloc (.cells (ints p) 24)) := (Below.refl _ _).alloc (Nat.le_refl _) _
  have hrow0 : PosAt p w.heap.size (w.alloc (.cells (ints p) 24)) := heap_alloc_new w (.cells (ints p) 24)
  have hrow : (w.alloc (.cells (ints p) 24)).heap[w.heap.size]? = some (.cells (ints p) 24 (0, 0)) := hrow0
  have hzW := lay (hz.below hBW (Nat.le_refl _))
  obtain ⟨oa, cap, rfl, hzm, hzc⟩ := hz
  unfold maxLen at hzm
  have hTs := lay (hT.below hBW (Nat.le_refl _))
  have hAs := lay (hA.below hBW)
  have hR0 := lay hrow0
  have hRt := lay (fun W => rt_right p hl W)
  have hBs := lay hBW
  have hzbs := lay hzb
  have hcs : Shut (∀ (W' : World), Below w.heap.size w W' → ∀ i, i < zs.length → ∃ g o, oa = some ⟨g, o, none⟩ ∧ W'.cell? ⟨g, o + i, none⟩ = some (.int .u8 (zs.getD i 0))) := by
    intro W' hb i hi'
    obtain ⟨g, o, h1, h2, h3⟩ := hzc i hi'
    exact ⟨g, o, h1, (hb.cell (p := ⟨g, o + i, none⟩) h2).trans h3⟩
  clear hT hA hBW hrow0 hzc hzb
  by_cases hbig : zs.length > 2147483647
  · have hb1 : decide ((2147483647 : Int) < (zs.length : Int)) = true := decide_eq_true (by omega)
    go_enter Tryd.func3, Tryd.ntmps3
    go_wp2_with fail
    go_ret
    exact ⟨rfl, hBs.out⟩
  have hb1 : decide ((2147483647 : Int) < (zs.length : Int)) = false := decide_eq_false (by omega)
  cases hask : askedB p with
  | false =>
    have hasks := lay hask
    clear hask
    go_enter Tryd.func3, Tryd.ntmps3
    go_wp2_with (first
      | ((with_reducible refine at_load_row hrow Tryd.underlying24 rfl ?_ ?_ ?_); (rw [ints_size, hl]; kernel_rfl); rfl)
      | (go_at_call 6; refine (hRt.out _).mono ?_; rintro e1 w1 ⟨rfl, hb1⟩; rw [hasks.out]))
    go_ret
    exact ⟨rfl, hBs.out.trans (hb1.mono hBs.out.size)⟩
  | true =>
    obtain ⟨tn, hs⟩ := valid_sound p hl (askedB_valid hask)
    have h67 := askedB_hf hask
    have h68 := askedB_fu hask
    have hasks := lay hask
    have hone := hs.one
    have hp := lay hs.pos
    have hI := lay (fun hn (W : World) hT hA (base : Nat) (u : Value) hv => ba_impl p tn hs (by omega) (by omega) (sqN zs) (sqN_lt zs) hn W hT hA base u hv)
    have hAt := lay (fun (s c : Int) h0 h1 (W : World) => at_attacked p hs.pos s c h0 h1 W)
    have c64 := lay (fun (V : World) (hV : PosAt p w.heap.size V) => (hV.cell 64 (by omega)).trans (by rw [hs.turn]))
    clear hask hs h67 h68
    by_cases hmany : zs.length > 8
    · have hb2 : decide ((8 : Int) < (zs.length : Int)) = true := decide_eq_true (by omega)
      go_enter Tryd.func3, Tryd.ntmps3
      go_wp2_with (first
        | ((with_reducible refine at_load_row hrow Tryd.underlying24 rfl ?_ ?_ ?_); (rw [ints_size, hl]; kernel_rfl); rfl)
        | (go_at_call 6; refine (hRt.out _).mono ?_; rintro e1 w1 ⟨rfl, hb1⟩; rw [hasks.out]))
      go_ret
      exact ⟨rfl, hBs.out.trans (hb1.mono hBs.out.size)⟩
    have hb2 : decide ((8 : Int) < (zs.length : Int)) = false := decide_eq_false (by omega)
    go_enter Tryd.func3, Tryd.ntmps3
    go_wp2_with (first
      | ((with_reducible refine at_load_row hrow Tryd.underlying24 rfl ?_ ?_ ?_); (rw [ints_size, hl]; kernel_rfl); rfl))
    refine (hRt.out _).mono ?_
    rintro e1 w1 ⟨rfl, hb1'⟩
    rw [hasks.out]
    have hB1 := lay (hBs.out.trans (hb1'.mono hBs.out.size))
    have hR1 := lay (hR0.out.below hb1')
    have hT1 := lay (hTs.out.below hb1' (Nat.le_refl _))
    have hA1 := lay (hAs.out.below hb1')
    have hsz1 := hb1'.size
    clear hb1' hrow
    go_wp2_with fail
    go_loopw [5, 6, 7] (fun u f i wr => ∃ k : Nat, k ≤ zs.length ∧ i = .int .i64 (k : Int) ∧ ownInts wr w1.heap.size u (((sqN zs).take k).map Int.ofNat) ∧ f = .bool (((sqN zs).take k).any fun s => attackedB p s (1 - (tn : Int))) ∧ Below w1.heap.size w1 wr) (fun _ _ i _ => (zs.length - (intOf i).toNat))
    case atStart => exact ⟨0, by omega, rfl, World.ownsRow_nil _ _ _ _, rfl, Below.refl _ _⟩
    case round =>
      obtain ⟨k, hk, rfl, hown, rfl, hbr⟩ := hrel
      have hsqn : (sqN zs).length = zs.length := by simp [sqN]
      by_cases hlt : k < zs.length
      · obtain ⟨g, o, rfl, hcell⟩ := hcs.out wr (hB1.out.trans (hbr.mono hB1.out.size)) k hlt
        obtain ⟨z0, z1⟩ := hzbs.out k hlt
        have htk := lay (sqN_take zs k hlt)
        have hzd := lay (rfl : zs.getD k 0 = zs.getD k 0)
        obtain ⟨m1, m2⟩ := mod64 _ z0 z1
        generalize hzg : zs.getD k 0 = z at *
        clear hzg hzd
        have hm0 : 0 ≤ z % 64 := by omega
        have hm1 : z % 64 ≤ 63 := by omega
        have hlen : (((sqN zs).take k).map Int.ofNat).length ≤ 1000000 := by simp; omega
        have hlk : (((sqN zs).take k).map Int.ofNat).length = k := by simp; omega
        have hbs := lay hbr
        have hbsz := hbr.size
        clear hbr
        generalize hwt : (((sqN zs).take k).any fun s => attackedB p s (1 - (tn : Int))) = want at *
        have hwts := lay hwt
        clear hwt
        have hrow := (hR1.out.below hbs.out : PosAt p w.heap.size wr)
        have hrs := lay hrow
        clear hrow
        have hmz := lay (And.intro m1 m2)
        unfold ownInts at hown
        rw [hlk] at hown
        go_wp2_with (with_reducible refine at_append1 Tryd.underlying27 hi hz0 hz1 hz2 rfl (by decide) rfl w1.heap.size _ _ _ hown (by omega) hbsz ?_ ?_ ?_)
        · rfl
        · rfl
        intro v' w' hown' hb'
        have hown2 : ownInts w' w1.heap.size v' (((sqN zs).take (k + 1)).map Int.ofNat) := by
          unfold ownInts
          rw [htk.out, List.map_append, List.map_append, List.length_append, hlk]
          have e : [Value.int .i64 (z % 64)] = List.map (Value.int .i64) (List.map Int.ofNat [(z % 64).toNat]) := by
            simp only [List.map_cons, List.map_nil]
            congr 2
            exact (Int.toNat_of_nonneg hm0).symm
          rw [← e]
          exact hown'
        have hL1 : (((sqN zs).take (k + 1)).map Int.ofNat).length = k + 1 := by simp; omega
        obtain ⟨a2, c2, rfl, hc2⟩ := ints_slice hown2
        obtain ⟨g2, rfl, _, _, _⟩ := hc2 k (by omega)
        have hck : Shut (∀ V : World, ownInts V w1.heap.size (.slice (some ⟨g2, 0, none⟩) (((sqN zs).take (k + 1)).map Int.ofNat).length c2) (((sqN zs).take (k + 1)).map Int.ofNat) → V.cell? ⟨g2, k, none⟩ = some (.int .i64 (z % 64))) := by
          intro V hV
          have h := hV.cellAt k (by omega)
          rw [htk.out] at h
          refine h.trans ?_
          have hl2 : ((sqN zs).take k).length = k := by simp; omega
          rw [List.map_append, List.map_append, List.getElem?_append_right (by rw [List.length_map, List.length_map, hl2]; exact Nat.le_refl _), List.length_map, List.length_map, hl2, Nat.sub_self]
          show some (Value.int .i64 (Int.ofNat (z % 64).toNat)) = _
          rw [show Int.ofNat (z % 64).toNat = z % 64 from Int.toNat_of_nonneg hm0]
        have hB2 := lay (hbs.out.trans hb')
        have hP2 : Shut (PosAt p w.heap.size w') := (hb'.block w.heap.size (by have := hR1.out.lt; omega)).trans hrs.out
        have hO2 := lay hown2
        have hwn : ((sqN zs).take (k + 1)).any (fun s => attackedB p s (1 - (tn : Int))) = (want || attackedB p (z % 64) (1 - (tn : Int))) := by
          rw [htk.out, List.any_append, hwts.out]
          simp [Int.toNat_of_nonneg hm0]
        have hwns := lay hwn
        have hAz := lay (hAt.out (z % 64) (1 - (tn : Int)) hm0 hm1)
        have hwt : IntKind.i64.wrap (1 - (tn : Int)) = 1 - (tn : Int) := by rw [IntKind.wrap_i64]; omega
        have hL1s := lay hL1
        clear hown hown' hown2 hc2 hb' hwn htk hL1
        generalize hLg : (((sqN zs).take (k + 1)).map Int.ofNat) = L' at *
        have hO3 : Shut (ownInts w' w1.heap.size (.slice (some ⟨g2, 0, none⟩) (k + 1) c2) L') := by
          have h := hO2.out
          rw [hL1s.out] at h
          exact h
        have hck3 : Shut (∀ V : World, ownInts V w1.heap.size (.slice (some ⟨g2, 0, none⟩) (k + 1) c2) L' → V.cell? ⟨g2, k, none⟩ = some (.int .i64 (z % 64))) := by
          have h := hck.out
          rw [hL1s.out] at h
          exact h
        rw [hL1s.out]
        have hk0 : (0 : Int) ≤ (k : Int) := by omega
        have hk1 : (k : Int) < (k : Int) + 1 := by omega
        clear hck hO2
        have hLs := lay hLg
        clear hLg
        cases want with
        | true =>
          go_wp2_with fail
          refine wp_region_held_drew (S := fun w' : World => PosAt p w.heap.size w' ∧ ownInts w' w1.heap.size (.slice (some ⟨g2, 0, none⟩) (k + 1) c2) L' ∧ Below w1.heap.size w1 w') (by kernel_rfl) ⟨hP2.out, hO3.out, hB2.out.drew⟩ (fun hHeld => ?_)
          refine wpAnyH_take (i := 0) (v := ?vbt_1_0) rfl (by kernel_rfl) (by kernel_rfl) (by kernel_rfl) (fun _ _ _ h => h) (Or.inl ⟨by rfl, ?ybt_1_0⟩) hHeld ?rbt_1_0
          case ybt_1_0 => (intro wq hSw; clear hSw; go_simp; try with_reducible rfl)
          try simp only [List.getElem_toArray, List.getElem_cons_zero, List.getElem_cons_succ, Act.put, List.setIfInBounds_toArray, List.set_cons_zero, List.set_cons_succ]
          refine wpAnyH_take (i := 1) (v := ?vbt_2_1) rfl (by kernel_rfl) (by kernel_rfl) (by kernel_rfl) (fun _ _ _ h => h) (Or.inl ⟨by rfl, ?ybt_2_1⟩) hHeld ?rbt_2_1
          case ybt_2_1 => (intro wq hSw; clear hSw; go_simp; try with_reducible rfl)
          try simp only [List.getElem_toArray, List.getElem_cons_zero, List.getElem_cons_succ, Act.put, List.setIfInBounds_toArray, List.set_cons_zero, List.set_cons_succ]
          refine wpAnyH_take (i := 2) (v := undef) rfl (by kernel_rfl) (by kernel_rfl) (by kernel_rfl) (fun _ _ _ h => h) (Or.inr ⟨by rfl, rfl⟩) hHeld ?_
          try simp only [List.getElem_toArray, List.getElem_cons_zero, List.getElem_cons_succ, Act.put, List.setIfInBounds_toArray, List.set_cons_zero, List.set_cons_succ]
          refine wpAnyH_take (i := 3) (v := undef) rfl (by kernel_rfl) (by kernel_rfl) (by kernel_rfl) (fun _ _ _ h => h) (Or.inr ⟨by rfl, rfl⟩) hHeld ?_
          try simp only [List.getElem_toArray, List.getElem_cons_zero, List.getElem_cons_succ, Act.put, List.setIfInBounds_toArray, List.set_cons_zero, List.set_cons_succ]
          refine wpAnyH_take (i := 4) (v := undef) rfl (by kernel_rfl) (by kernel_rfl) (by kernel_rfl) (fun _ _ _ h => h) (Or.inr ⟨by rfl, rfl⟩) hHeld ?_
          try simp only [List.getElem_toArray, List.getElem_cons_zero, List.getElem_cons_succ, Act.put, List.setIfInBounds_toArray, List.set_cons_zero, List.set_cons_succ]
          refine wpAnyH_take (i := 5) (v := undef) rfl (by kernel_rfl) (by kernel_rfl) (by kernel_rfl) (fun _ _ _ h => h) (Or.inr ⟨by rfl, rfl⟩) hHeld ?_
          try simp only [List.getElem_toArray, List.getElem_cons_zero, List.getElem_cons_succ, Act.put, List.setIfInBounds_toArray, List.set_cons_zero, List.set_cons_succ]
          refine wpAnyH_take (i := 6) (v := undef) rfl (by kernel_rfl) (by kernel_rfl) (by kernel_rfl) (fun _ _ _ h => h) (Or.inr ⟨by rfl, rfl⟩) hHeld ?_
          try simp only [List.getElem_toArray, List.getElem_cons_zero, List.getElem_cons_succ, Act.put, List.setIfInBounds_toArray, List.set_cons_zero, List.set_cons_succ]
          refine wpAnyH_take (i := 7) (v := undef) rfl (by kernel_rfl) (by kernel_rfl) (by kernel_rfl) (fun _ _ _ h => h) (Or.inr ⟨by rfl, rfl⟩) hHeld ?_
          try simp only [List.getElem_toArray, List.getElem_cons_zero, List.getElem_cons_succ, Act.put, List.setIfInBounds_toArray, List.set_cons_zero, List.set_cons_succ]
          refine wpAnyH_take (i := 8) (v := undef) rfl (by kernel_rfl) (by kernel_rfl) (by kernel_rfl) (fun _ _ _ h => h) (Or.inr ⟨by rfl, rfl⟩) hHeld ?_
          try simp only [List.getElem_toArray, List.getElem_cons_zero, List.getElem_cons_succ, Act.put, List.setIfInBounds_toArray, List.set_cons_zero, List.set_cons_succ]
          refine wpAnyH_take (i := 9) (v := undef) rfl (by kernel_rfl) (by kernel_rfl) (by kernel_rfl) (fun _ _ _ h => h) (Or.inr ⟨by rfl, rfl⟩) hHeld ?_
          try simp only [List.getElem_toArray, List.getElem_cons_zero, List.getElem_cons_succ, Act.put, List.setIfInBounds_toArray, List.set_cons_zero, List.set_cons_succ]
          refine wpAnyH_take (i := 10) (v := undef) rfl (by kernel_rfl) (by kernel_rfl) (by kernel_rfl) (fun _ _ _ h => h) (Or.inr ⟨by rfl, rfl⟩) hHeld ?_
          try simp only [List.getElem_toArray, List.getElem_cons_zero, List.getElem_cons_succ, Act.put, List.setIfInBounds_toArray, List.set_cons_zero, List.set_cons_succ]
          refine wpAnyH_take (i := 11) (v := ?vbt_3_11) rfl (by kernel_rfl) (by kernel_rfl) (by kernel_rfl) (fun _ _ _ h => h) (Or.inl ⟨by rfl, ?ybt_3_11⟩) hHeld ?rbt_3_11
          case ybt_3_11 => (intro wq hSw; clear hSw; go_simp; try with_reducible rfl)
          try simp only [List.getElem_toArray, List.getElem_cons_zero, List.getElem_cons_succ, Act.put, List.setIfInBounds_toArray, List.set_cons_zero, List.set_cons_succ]
          refine wpAnyH_take (i := 12) (v := ?vbt_4_12) rfl (by kernel_rfl) (by kernel_rfl) (by kernel_rfl) (fun _ _ _ h => h) (Or.inl ⟨by rfl, ?ybt_4_12⟩) hHeld ?rbt_4_12
          case ybt_4_12 => (intro wq hSw; clear hSw; go_simp; try with_reducible rfl)
          try simp only [List.getElem_toArray, List.getElem_cons_zero, List.getElem_cons_succ, Act.put, List.setIfInBounds_toArray, List.set_cons_zero, List.set_cons_succ]
          refine wpAnyH_done (by kernel_rfl) ?_ _
          have hSr := lay hHeld
          clear hHeld
          go_wp2_with fail
          go_roundw
          case rel =>
            have R : ∃ k' : Nat, k' ≤ zs.length ∧ Value.int .i64 ((k : Int) + 1) = .int .i64 (k' : Int) ∧ ownInts w'.drew w1.heap.size (.slice (some ⟨g2, 0, none⟩) (k + 1) c2) (((sqN zs).take k').map Int.ofNat) ∧ Value.bool true = .bool (((sqN zs).take k').any fun s => attackedB p s (1 - (tn : Int))) ∧ Below w1.heap.size w1 w'.drew := ⟨k + 1, by omega, by go_num, by rw [hLs.out]; exact hSr.out.2.1, by rw [hwns.out]; rfl, hSr.out.2.2⟩
            first | exact R | ((repeat apply Exists.intro); exact ⟨R, rfl⟩)
          case measure => simp [intOf]; omega
        | false =>
          go_wp2_with fail
          refine wp_region_held_drew (S := fun w' : World => PosAt p w.heap.size w' ∧ ownInts w' w1.heap.size (.slice (some ⟨g2, 0, none⟩) (k + 1) c2) L' ∧ Below w1.heap.size w1 w') (by kernel_rfl) ⟨hP2.out, hO3.out, hB2.out.drew⟩ (fun hHeld => ?_)
          refine wpAnyH_take (i := 0) (v := ?vbf_1_0) rfl (by kernel_rfl) (by kernel_rfl) (by kernel_rfl) (fun _ _ _ h => h) (Or.inl ⟨by rfl, ?ybf_1_0⟩) hHeld ?rbf_1_0
          case ybf_1_0 => (intro wq hSw; clear hSw; go_simp; try with_reducible rfl)
          try simp only [List.getElem_toArray, List.getElem_cons_zero, List.getElem_cons_succ, Act.put, List.setIfInBounds_toArray, List.set_cons_zero, List.set_cons_succ]
          refine wpAnyH_take (i := 1) (v := ?vbf_2_1) rfl (by kernel_rfl) (by kernel_rfl) (by kernel_rfl) (fun _ _ _ h => h) (Or.inl ⟨by rfl, ?ybf_2_1⟩) hHeld ?rbf_2_1
          case ybf_2_1 => (intro wq hSw; clear hSw; go_simp; try with_reducible rfl)
          try simp only [List.getElem_toArray, List.getElem_cons_zero, List.getElem_cons_succ, Act.put, List.setIfInBounds_toArray, List.set_cons_zero, List.set_cons_succ]
          refine' wpAnyH_take (i := 2) (v := _) rfl (by kernel_rfl) (by kernel_rfl) (by kernel_rfl) (fun _ _ _ h => h) (yieldsIf_load_mid (by rfl) _ _ rfl _ _ rfl _ _ (fun _ h => h.1.range) Tryd.underlying24 rfl (pos_info p hl)) hHeld ?_
          try simp only [List.getElem_toArray, List.getElem_cons_zero, List.getElem_cons_succ, Act.put, List.setIfInBounds_toArray, List.set_cons_zero, List.set_cons_succ]
          refine wpAnyH_take (i := 3) (v := ?vbf_4_3) rfl (by kernel_rfl) (by kernel_rfl) (by kernel_rfl) (fun _ _ _ h => h) (Or.inl ⟨by rfl, ?ybf_4_3⟩) hHeld ?rbf_4_3
          case ybf_4_3 => (intro wq hSw; clear hSw; go_simp; try with_reducible rfl)
          try simp only [List.getElem_toArray, List.getElem_cons_zero, List.getElem_cons_succ, Act.put, List.setIfInBounds_toArray, List.set_cons_zero, List.set_cons_succ]
          refine wpAnyH_take (i := 4) (v := ?vbf_5_4) rfl (by kernel_rfl) (by kernel_rfl) (by kernel_rfl) (fun _ _ _ h => h) (Or.inl ⟨by rfl, ?ybf_5_4⟩) hHeld ?rbf_5_4
          case ybf_5_4 => (intro wq hSw; clear hSw; go_simp; try with_reducible rfl)
          try simp only [List.getElem_toArray, List.getElem_cons_zero, List.getElem_cons_succ, Act.put, List.setIfInBounds_toArray, List.set_cons_zero, List.set_cons_succ]
          refine wpAnyH_take (i := 5) (v := ?vbf_6_5) rfl (by kernel_rfl) (by kernel_rfl) (by kernel_rfl) (fun _ _ _ h => h) (Or.inl ⟨by rfl, ?ybf_6_5⟩) hHeld ?rbf_6_5
          case ybf_6_5 => (intro wq hSw; clear hSw; go_simp; try with_reducible rfl)
          try simp only [List.getElem_toArray, List.getElem_cons_zero, List.getElem_cons_succ, Act.put, List.setIfInBounds_toArray, List.set_cons_zero, List.set_cons_succ]
          refine wpAnyH_take (i := 6) (v := ?vbf_7_6) rfl (by kernel_rfl) (by kernel_rfl) (by kernel_rfl) (fun _ _ _ h => h) (Or.inl ⟨by rfl, ?ybf_7_6⟩) hHeld ?rbf_7_6
          case ybf_7_6 => (intro wq hSw; have hq := hck3.out _ hSw.2.1; clear hSw; go_simp; try with_reducible rfl)
          try simp only [List.getElem_toArray, List.getElem_cons_zero, List.getElem_cons_succ, Act.put, List.setIfInBounds_toArray, List.set_cons_zero, List.set_cons_succ]
          refine wpAnyH_take (i := 7) (v := ?vbf_8_7) rfl (by kernel_rfl) (by kernel_rfl) (by kernel_rfl) (fun _ _ _ h => h) (Or.inl ⟨by rfl, ?ybf_8_7⟩) hHeld ?rbf_8_7
          case ybf_8_7 => (intro wq hSw; clear hSw; go_simp; try with_reducible rfl)
          try simp only [List.getElem_toArray, List.getElem_cons_zero, List.getElem_cons_succ, Act.put, List.setIfInBounds_toArray, List.set_cons_zero, List.set_cons_succ]
          refine wpAnyH_take (i := 8) (v := ?vbf_9_8) rfl (by kernel_rfl) (by kernel_rfl) (by kernel_rfl) (fun _ _ _ h => h) (Or.inl ⟨by rfl, ?ybf_9_8⟩) hHeld ?rbf_9_8
          case ybf_9_8 => (intro wq hSw; have hq := c64.out _ hSw.1; clear hSw; go_simp; try with_reducible rfl)
          try simp only [List.getElem_toArray, List.getElem_cons_zero, List.getElem_cons_succ, Act.put, List.setIfInBounds_toArray, List.set_cons_zero, List.set_cons_succ]
          refine wpAnyH_take (i := 9) (v := ?vbf_10_9) rfl (by kernel_rfl) (by kernel_rfl) (by kernel_rfl) (fun _ _ _ h => h) (Or.inl ⟨by rfl, ?ybf_10_9⟩) hHeld ?rbf_10_9
          case ybf_10_9 => (intro wq hSw; clear hSw; go_simp; try with_reducible rfl)
          try simp only [List.getElem_toArray, List.getElem_cons_zero, List.getElem_cons_succ, Act.put, List.setIfInBounds_toArray, List.set_cons_zero, List.set_cons_succ]
          refine wpAnyH_ready (rs := [10]) (by kernel_rfl) (by simp) ?_
          refine AllReadyH.cons rfl (fun K hK => ?_) AllReadyH.nil
          try simp only [List.getElem_toArray, List.getElem_cons_zero, List.getElem_cons_succ, Act.put, List.setIfInBounds_toArray, List.set_cons_zero, List.set_cons_succ]
          try rw [if_pos (by rfl)]
          go_simp
          refine (hAz.out _).mono ?_
          rintro e3 w3 ⟨rfl, hb3⟩
          go_wp2_with fail
          refine hK.out _ _ (⟨hHeld.1.below hb3, own_below hHeld.2.1 hb3, hHeld.2.2.trans (hb3.mono hHeld.2.2.size)⟩) (fun hHeld => ?_)
          clear hK K
          try simp only [List.getElem_toArray, List.getElem_cons_zero, List.getElem_cons_succ, Act.put, List.setIfInBounds_toArray, List.set_cons_zero, List.set_cons_succ]
          refine wpAnyH_take (i := 11) (v := ?vbf_11_11) rfl (by kernel_rfl) (by kernel_rfl) (by kernel_rfl) (fun _ _ _ h => h) (Or.inl ⟨by rfl, ?ybf_11_11⟩) hHeld ?rbf_11_11
          case ybf_11_11 => (intro wq hSw; clear hSw; go_simp; try with_reducible rfl)
          try simp only [List.getElem_toArray, List.getElem_cons_zero, List.getElem_cons_succ, Act.put, List.setIfInBounds_toArray, List.set_cons_zero, List.set_cons_succ]
          refine wpAnyH_take (i := 12) (v := ?vbf_12_12) rfl (by kernel_rfl) (by kernel_rfl) (by kernel_rfl) (fun _ _ _ h => h) (Or.inl ⟨by rfl, ?ybf_12_12⟩) hHeld ?rbf_12_12
          case ybf_12_12 => (intro wq hSw; clear hSw; go_simp; try with_reducible rfl)
          try simp only [List.getElem_toArray, List.getElem_cons_zero, List.getElem_cons_succ, Act.put, List.setIfInBounds_toArray, List.set_cons_zero, List.set_cons_succ]
          refine wpAnyH_done (by kernel_rfl) ?_ _
          have hSr := lay hHeld
          clear hHeld
          go_wp2_with fail
          go_roundw
          case rel =>
            have R : ∃ k' : Nat, k' ≤ zs.length ∧ Value.int .i64 ((k : Int) + 1) = .int .i64 (k' : Int) ∧ ownInts w3 w1.heap.size (.slice (some ⟨g2, 0, none⟩) (k + 1) c2) (((sqN zs).take k').map Int.ofNat) ∧ Value.bool (attackedB p (z % 64) (1 - (tn : Int))) = .bool (((sqN zs).take k').any fun s => attackedB p s (1 - (tn : Int))) ∧ Below w1.heap.size w1 w3 := ⟨k + 1, by omega, by go_num, by rw [hLs.out]; exact hSr.out.2.1, by rw [hwns.out]; rfl, hSr.out.2.2⟩
            first | exact R | ((repeat apply Exists.intro); exact ⟨R, rfl⟩)
          case measure => simp [intOf]; omega
      · obtain rfl : k = zs.length := by omega
        have hfull : (sqN zs).take zs.length = sqN zs := by rw [← hsqn, List.take_length]
        rw [hfull] at hown ⊢
        have hrow' : wr.heap[w.heap.size]? = some (.cells (ints p) 24 (0, 0)) := hR1.out.below hbr
        have hJ := lay (hI.out (by omega) wr (hT1.out.below hbr (Nat.le_refl _)) (hA1.out.below hbr) _ _ hown)
        have hB2 := lay (hB1.out.trans (hbr.mono hB1.out.size))
        clear hown hbr hfull
        generalize hwt : ((sqN zs).any fun s => attackedB p s (1 - (tn : Int))) = want at *
        clear hwt
        go_wp2_with (first
          | ((with_reducible refine at_load_row hrow' Tryd.underlying24 rfl ?_ ?_ ?_); (rw [ints_size, hl]; kernel_rfl); rfl)
          | (go_at_call 8; refine hJ.out.mono ?_; rintro e3 w3 ⟨rfl, hb3⟩))
        go_ret
        refine ⟨?_, hB2.out.trans (hb3.mono hB2.out.size)⟩
        simp
end Go.Proofs.YtplkcmlpomjojaaDoor
