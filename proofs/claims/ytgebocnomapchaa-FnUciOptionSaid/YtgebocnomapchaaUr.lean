/- FnUciOption: the thin package's reading. -/
import Derived.Test.YtgebocnomapchaaUm
namespace Go.Proofs.Ytgebocnomapchaa
open Go Go.RowKit
set_option maxHeartbeats 8000000
set_option linter.unusedSimpArgs false
set_option linter.unusedVariables false
set_option maxRecDepth 100000

theorem ur_idle (p q : Addr) (w : World) :
    CallsD Try.prog 28 #[.pointer (some p), .pointer (some q)] .returning w fun e u' w' => e = .returned (.tuple #[]) ∧ u' = .returning ∧ w = w' := by
  refine callsD_of_wpS Try.func28 rfl fun c₀ cs hu => ?_
  apply wpS_seq
  apply wpS_region
  simp [wpOpsS, go_sem, recoverD, hu, Try.ntmps28, Exit.thenS]
  refine wpS_cond (t := false) (by simp [Act.eval, Array.replicate]) ?_
  simp only [Bool.false_eq_true, if_false]
  refine wpS_of_wp (wp_skip ?_)
  cases c₀
  simp_all [bodyPostS, results, Try.results28]

/-- Two results: a variable of many cells, and a variable of one. -/
theorem results_cell_word {P : Program} {fn : Func} {p q : Tmp} {ty tz : TypeId} (h : fn.results = #[.cell p ty, .cell q tz]) (tmps : Array Value) (w : World) (g : Nat) (t : TypeId) (cs : Array Value) (fr : Nat × Nat) (d dz : TypeDesc)
    (hp : tmps.getD p undef = .pointer (some ⟨g, 0, none⟩)) (hg : w.heap[g]? = some (.cells cs t fr))
    (hu : P.underlying ty = some d) (hd : (match d with | .struct _ | .array _ _ => true | _ => false) = true) (hi : (P.info? ty).map (·.size) = some cs.size) (g2 : Nat) (v : Value)
    (hq : tmps.getD q undef = .pointer (some ⟨g2, 0, none⟩)) (hv : w.cell? ⟨g2, 0, none⟩ = some v) (hz : P.underlying tz = some dz) (hdz : (match dz with | .struct _ | .array _ _ => true | _ => false) = false) :
    (results fn tmps).run P w = .ok (.tuple #[.agg cs, v]) w := by
  have hp' : tmps[p]?.getD undef = .pointer (some ⟨g, 0, none⟩) := by simpa using hp
  have hq' : tmps[q]?.getD undef = .pointer (some ⟨g2, 0, none⟩) := by simpa using hq
  have hagg : (isAgg tz).run P w = .ok false w := by
    unfold isAgg
    rw [Sem.run_bind, run_underlying hz w]
    cases dz <;> simp_all
  have hl : (loadVar tz ⟨g2, 0, none⟩).run P w = .ok v w := by
    simp [loadVar, hagg, run_load, hv]
  simp [results, h, hp', hq', asAddr, run_loadVar_row w g t ty cs fr d hg hu hd hi, hl]
theorem heap_at (w : World) (o : Obj) (k : Nat) (hk : k = w.heap.size) : (w.alloc o).heap[k]? = some o := by subst hk; exact heap_alloc_new w o
theorem bytes_cell (w : World) (l : List UInt8) (cap : Nat) (t : TypeId) (fr : Nat × Nat) (b : Nat) (hb : b = w.heap.size) : ∀ j (hj : j < l.length), ((w.alloc (.cells (bytesRow (bs l) cap) t fr)).drew).cell? ((⟨b, 0, none⟩ : Addr).add j) = some (.int .u8 (l[j].toNat : Int)) := by
  subst hb
  intro j hj
  have e : (⟨w.heap.size, 0, none⟩ : Addr).add j = ⟨w.heap.size, j, none⟩ := by unfold Addr.add; split <;> simp_all
  rw [e, cell_of_row _ _ _ _ _ _ (show ((w.alloc (.cells (bytesRow (bs l) cap) t fr)).drew).heap[w.heap.size]? = some (.cells (bytesRow (bs l) cap) t fr) from heap_alloc_new w _)]
  unfold bytesRow
  rw [Array.getElem?_append_left (by simp [bs]; exact hj)]
  simp [bs, hj]
theorem optPut_vars (r s : List UInt8) (x y : OptS) (h : optPut r s x = some y) : y.vars.length ≤ x.vars.length + 1 := by
  unfold optPut at h
  repeat' split at h
  all_goals first | (cases h; done) | (cases h; simp)
theorem optRun_vars : ∀ (ws : List (List UInt8)) (r : List UInt8) (x y : OptS), optRun ws r x = some y → y.vars.length ≤ x.vars.length + ws.length
  | [], r, x, y, h => by
    rw [optRun] at h
    cases h
    omega
  | s :: l, r, x, y, h => by
    rw [optRun] at h
    split at h
    · have := optRun_vars l s x y h
      simp; omega
    · cases hp : optPut r s x with
      | none => rw [hp] at h; cases h
      | some z =>
        rw [hp] at h
        have h1 := optRun_vars l [] z y h
        have h2 := optPut_vars r s x z hp
        simp; omega
theorem optRead_vars (l : List UInt8) (x : OptS) (h : optRead l = some x) : x.vars.length ≤ l.length + 1 := by
  have hw := words_le l
  unfold optRead at h
  cases hws : words l with
  | nil => rw [hws] at h; cases h
  | cons o ws =>
    rw [hws] at h hw
    simp only [] at h
    split at h
    · cases hr : optRun ws [] optZero with
      | none => rw [hr] at h; cases h
      | some z =>
        rw [hr] at h
        have h1 := optRun_vars ws [] optZero z hr
        simp only [Option.bind_some] at h
        split at h
        · cases h
        · cases h
          simp [optZero] at h1 hw
          omega
    · cases h
theorem lt_of_get {w : World} {b : Nat} {o : Obj} (h : w.heap[b]? = some o) : b < w.heap.size := (Array.getElem?_eq_some_iff.1 h).1
theorem cell_later {w w2 : World} {b k : Nat} {u : Value} (hb : Below w.heap.size w w2) (hl : b < w.heap.size) (h : w.cell? ⟨b, k, none⟩ = some u) : w2.cell? ⟨b, k, none⟩ = some u := (hb.cell (p := ⟨b, k, none⟩) hl).trans h
theorem own_slice {w : World} {base : Nat} {e : TypeId} {size : Nat} {v : Value} {n : Nat} {xs : List Value} (h : w.ownsRow base e size v n xs) : ∃ a k c, v = .slice a k c := by
  obtain ⟨_, ⟨rfl, _⟩ | ⟨g, cap, cur, rfl, _⟩⟩ := h
  · exact ⟨_, _, _, rfl⟩
  · exact ⟨_, _, _, rfl⟩
theorem strsV_one (l : List (List UInt8)) : ∀ q ∈ strsV l, q.oneCell' = true := by
  intro q hq
  unfold strsV at hq
  obtain ⟨r, _, rfl⟩ := List.mem_map.1 hq
  rfl
theorem own_same {w w2 : World} {base : Nat} {e : TypeId} {size : Nat} {v : Value} {n : Nat} {xs : List Value} (h : w.ownsRow base e size v n xs) (hh : ∀ k, base ≤ k → w2.heap[k]? = w.heap[k]?) : w2.ownsRow base e size v n xs := by
  obtain ⟨h1, h2 | ⟨g, cap, cur, a, b, c, d⟩⟩ := h
  · exact ⟨h1, Or.inl h2⟩
  · exact ⟨h1, Or.inr ⟨g, cap, cur, a, b, (hh g b).trans c, d⟩⟩
theorem upon_is {P : Program} {o : Oper} {a : Act} {K : Act → World → Prop} {Q : Exit → Act → World → Prop} {r : Result Next} {W : World} (hr : r = .ok .skip W) (h : K (a.put o.dst undef) W) : Oper.upon P o a K Q r := by
  subst hr
  exact h
/-- Six cells, one after the other. -/
theorem six_store (w' : World) (b : Nat) (x : OptS) (u : Value) (t : TypeId) (hA : w'.heap[b]? = some (.cells optNil t (0, 0))) :
    ∃ W, ((((((w'.setCell ⟨b, 0, none⟩ (.string (bs x.name))).setCell ⟨b, 1, none⟩ (.string (bs x.typ))).setCell ⟨b, 2, none⟩ (.string (bs x.dflt))).setCell ⟨b, 3, none⟩ (.string (bs x.lo))).setCell ⟨b, 4, none⟩ (.string (bs x.hi))).setCell ⟨b, 5, none⟩ u) = W ∧ W.heap[b]? = some (.cells (optCells x u) t (0, 0)) ∧ (∀ k, k ≠ b → W.heap[k]? = w'.heap[k]?) ∧ ∀ B w, Below B w w' → B ≤ b → Below B w W := by
  refine ⟨_, rfl, ?_, fun k hk => ?_, fun B w hb hB => ?_⟩
  · have h0 := heap_setCell_same w' b 0 _ _ (.string (bs x.name)) hA
    have h1 := heap_setCell_same _ b 1 _ _ (.string (bs x.typ)) h0
    have h2 := heap_setCell_same _ b 2 _ _ (.string (bs x.dflt)) h1
    have h3 := heap_setCell_same _ b 3 _ _ (.string (bs x.lo)) h2
    have h4 := heap_setCell_same _ b 4 _ _ (.string (bs x.hi)) h3
    exact heap_setCell_same _ b 5 _ _ u h4
  · have h : ∀ (w : World) (i : Nat) (v : Value), (w.setCell ⟨b, i, none⟩ v).heap[k]? = w.heap[k]? := fun w i v => heap_setCell_other w ⟨b, i, none⟩ k v hk
    simp only [h]
  · exact (((((hb.setCell (p := ⟨b, 0, none⟩) hB _).setCell (p := ⟨b, 1, none⟩) hB _).setCell (p := ⟨b, 2, none⟩) hB _).setCell (p := ⟨b, 3, none⟩) hB _).setCell (p := ⟨b, 4, none⟩) hB _).setCell (p := ⟨b, 5, none⟩) hB _
def putAt (P : Program) (p : Addr) (v : Value) (w : World) : Result Unit :=
  match w.cell? p with
  | some _ => if w.frozen? p = true then Result.halt (Halt.unsupported (Unsupported.unsafePointer "a write to bytes that a string shares")) w else Result.ok () (w.setCell p v)
  | none =>
    match World.farStore P w p v (Mode.plain == Mode.atomic) with
    | Except.ok (w', _) => Result.ok () w'
    | Except.error h => Result.halt h w
theorem putAt_ok (P : Program) (w : World) (b i : Nat) (v : Value) (cs : Array Value) (t : TypeId) (h : w.heap[b]? = some (.cells cs t (0, 0))) (hi : i < cs.size) : putAt P ⟨b, i, none⟩ v w = .ok () (w.setCell ⟨b, i, none⟩ v) := by
  have hc := cell_of_row w b i _ _ _ h
  have hf := frozen_of_row w b i _ _ h
  unfold putAt
  rw [hc, hf]
  simp [Array.getElem?_eq_getElem hi]
theorem six_run (w' : World) (b : Nat) (x : OptS) (u : Value) (t : TypeId) (hA : w'.heap[b]? = some (.cells optNil t (0, 0))) (P : Program) :
    ((putAt P ⟨b, 0, none⟩ (.string (bs x.name)) w').andThen fun _ w' => (putAt P ⟨b, 1, none⟩ (.string (bs x.typ)) w').andThen fun _ w' => (putAt P ⟨b, 2, none⟩ (.string (bs x.dflt)) w').andThen fun _ w' => (putAt P ⟨b, 3, none⟩ (.string (bs x.lo)) w').andThen fun _ w' => (putAt P ⟨b, 4, none⟩ (.string (bs x.hi)) w').andThen fun _ w' => putAt P ⟨b, 5, none⟩ u w').andThen (fun _ w' => Result.ok Next.skip w') = .ok .skip ((((((w'.setCell ⟨b, 0, none⟩ (.string (bs x.name))).setCell ⟨b, 1, none⟩ (.string (bs x.typ))).setCell ⟨b, 2, none⟩ (.string (bs x.dflt))).setCell ⟨b, 3, none⟩ (.string (bs x.lo))).setCell ⟨b, 4, none⟩ (.string (bs x.hi))).setCell ⟨b, 5, none⟩ u) := by
  have h0 := heap_setCell_same w' b 0 _ _ (.string (bs x.name)) hA
  have h1 := heap_setCell_same _ b 1 _ _ (.string (bs x.typ)) h0
  have h2 := heap_setCell_same _ b 2 _ _ (.string (bs x.dflt)) h1
  have h3 := heap_setCell_same _ b 3 _ _ (.string (bs x.lo)) h2
  have h4 := heap_setCell_same _ b 4 _ _ (.string (bs x.hi)) h3
  rw [putAt_ok P w' b 0 _ _ t hA (by simp [optNil, optCells])]
  simp only [Result.andThen_ok]
  rw [putAt_ok P _ b 1 _ _ t h0 (by simp [optNil, optCells])]
  simp only [Result.andThen_ok]
  rw [putAt_ok P _ b 2 _ _ t h1 (by simp [optNil, optCells])]
  simp only [Result.andThen_ok]
  rw [putAt_ok P _ b 3 _ _ t h2 (by simp [optNil, optCells])]
  simp only [Result.andThen_ok]
  rw [putAt_ok P _ b 4 _ _ t h3 (by simp [optNil, optCells])]
  simp only [Result.andThen_ok]
  rw [putAt_ok P _ b 5 _ _ t h4 (by simp [optNil, optCells])]
  rfl
theorem ur_impl (l : List UInt8) (w : World) (hl : l.length ≤ 1000) :
    Calls Try.prog 17 #[.string (bs l)] w fun e w' => Below w.heap.size w w' ∧
      ((optRead l = none ∧ ∃ n : Nat, e = .returned (.tuple #[.agg (optCells optZero (.slice none n n)), .bool false])) ∨
       ∃ x v, optRead l = some x ∧ e = .returned (.tuple #[.agg (optCells x v), .bool true]) ∧ w'.ownsRow w.heap.size 9 1 v x.vars.length (strsV x.vars)) := by
  have hmf := makeFunc_run Try.prog
  go_enter_defers Try.func17, Try.ntmps17
  have hcv := fun W => run_bytes_of_string (P := Try.prog) W 9 66 5 (bs l) Try.underlying9 Try.underlying66 Try.underlying5
  rw [bs_size] at hcv
  go_wp2_with fail
  refine (um_read l _ _ _ _ hl ?h1 ?h2 ?h3).mono ?_
  case h1 => exact (heap_alloc_old _ _ (by simp)).trans (heap_at _ _ _ (by simp))
  case h2 => exact bytes_cell _ _ _ _ _ _ (by simp)
  case h3 => simp
  rintro e w4 ⟨q4, hor⟩
  have hA : w4.heap[w.heap.size]? = some (.cells optNil 40 (0, 0)) := (q4.block _ (by omega)).trans ((heap_alloc_old _ _ (by simp; omega)).trans ((heap_alloc_old _ _ (by simp; omega)).trans (heap_alloc2_old w _ _)))
  have hB : w4.heap[w.heap.size + 1]? = some (.cells #[.bool false] 4 (0, 0)) := (q4.block _ (by omega)).trans ((heap_alloc_old _ _ (by simp; try omega)).trans ((heap_alloc_old _ _ (by simp)).trans (heap_alloc2_new w _ _)))
  have hb4 : Below w.heap.size w w4 := ((((((Below.refl _ _).alloc (Nat.le_refl _) _).alloc (by simp) _).alloc (by simp; omega) _).alloc (by simp; omega) _).trans (Below.mono (drewN_below _ 1) (by simp; omega))).trans (q4.mono (by omega))
  rcases hor with ⟨hnone, u, v, rfl⟩ | ⟨x, v, hsome, rfl, hx, hown⟩
  · have cB : (w4.setRow w.heap.size (optCells optZero (.slice none 0 0))).cell? ⟨w.heap.size + 1, 0, none⟩ = some (.bool false) := cell_of_row _ _ 0 _ _ _ ((setRow_other w4 _ _ _ (by omega)).trans hB)
    have fB := frozen_of_row (w4.setRow w.heap.size (optCells optZero (.slice none 0 0))) (w.heap.size + 1) 0 _ _ ((setRow_other w4 _ _ _ (by omega)).trans hB)
    go_wp2_with ((with_reducible refine at_store_row (optCells optZero (.slice none 0 0)) hA ?_ ?_ ?_ ?_ ?_ ?_); kernel_rfl; rfl; exact optCells_one _ _ rfl; rfl; rfl)
    refine leaves_cons (f := 28) (args := #[.pointer (some ⟨w.heap.size, 0, none⟩), .pointer (some ⟨w.heap.size + 1, 0, none⟩)]) (by simp) (by simp [go_sem]) ?_
    refine (ur_idle _ _ _).mono ?_
    rintro e u' w'' ⟨rfl, rfl, rfl⟩
    have hc : ((w4.setRow w.heap.size (optCells optZero (.slice none 0 0))).setCell ⟨w.heap.size + 1, 0, none⟩ (.bool false)).cell? ⟨w.heap.size + 1, 0, none⟩ = some (.bool false) := cell_of_row _ _ 0 _ _ _ (heap_setCell_same _ _ 0 _ _ _ ((setRow_other w4 _ _ _ (by omega)).trans hB))
    have hb6 := (below_setRow' hb4 (Nat.le_refl _) (optCells optZero (.slice none 0 0))).setCell (p := ⟨w.heap.size + 1, 0, none⟩) (by simp) (.bool false)
    exact ⟨_, results_cell_word rfl _ _ w.heap.size 40 (optCells optZero (.slice none 0 0)) (0, 0) _ _ rfl ((heap_setCell_other _ _ _ _ (by simp)).trans (setRow_heap w4 w.heap.size _ _ _ _ hA)) Try.underlying40 rfl (by kernel_rfl) (w.heap.size + 1) (.bool false) rfl hc Try.underlying4 rfl, hb6, Or.inl ⟨hnone, _, rfl⟩⟩
  · obtain ⟨i0, hi, hz0, hz1, hz2⟩ := info_parts uw_info
    have hvl := optRead_vars l x hsome
    go_wp2_with fail
    refine wp_region_noPanic ?_
    clear hcv hmf
    have hid : True → Below w.heap.size w w4 ∧ optRead l = some x := fun _ => ⟨hb4, hsome⟩
    have hown1 := own_mono hown (show w.heap.size ≤ _ by simp; omega)
    clear hb4 q4 hsome hown
    generalize hgc : grownCap _ _ _ _ = cap0
    clear hgc
    generalize hb0 : w.heap.size = b0 at *
    go_region_held3 (fun w' : World => w'.cell? ⟨b0 + 1 + 1, 0, none⟩ = some (.string (bs x.name)) ∧ w'.cell? ⟨b0 + 1 + 1, 1, none⟩ = some (.string (bs x.typ)) ∧ w'.cell? ⟨b0 + 1 + 1, 2, none⟩ = some (.string (bs x.dflt)) ∧ w'.cell? ⟨b0 + 1 + 1, 3, none⟩ = some (.string (bs x.lo)) ∧ w'.cell? ⟨b0 + 1 + 1, 4, none⟩ = some (.string (bs x.hi)) ∧ w'.cell? ⟨b0 + 1 + 1, 5, none⟩ = some v)
      (first
        | exact ⟨cell_of_row w4 _ 0 _ _ _ hx, cell_of_row w4 _ 1 _ _ _ hx, cell_of_row w4 _ 2 _ _ _ hx, cell_of_row w4 _ 3 _ _ _ hx, cell_of_row w4 _ 4 _ _ _ hx, cell_of_row w4 _ 5 _ _ _ hx⟩
        | exact ⟨cell_later hb' (lt_of_get hx) (cell_of_row w4 _ 0 _ _ _ hx), cell_later hb' (lt_of_get hx) (cell_of_row w4 _ 1 _ _ _ hx), cell_later hb' (lt_of_get hx) (cell_of_row w4 _ 2 _ _ _ hx), cell_later hb' (lt_of_get hx) (cell_of_row w4 _ 3 _ _ _ hx), cell_later hb' (lt_of_get hx) (cell_of_row w4 _ 4 _ _ _ hx), cell_later hb' (lt_of_get hx) (cell_of_row w4 _ 5 _ _ _ hx)⟩
        | exact ⟨cell_of_row W _ 0 _ _ _ hWX, cell_of_row W _ 1 _ _ _ hWX, cell_of_row W _ 2 _ _ _ hWX, cell_of_row W _ 3 _ _ _ hWX, cell_of_row W _ 4 _ _ _ hWX, cell_of_row W _ 5 _ _ _ hWX⟩
        | exact ⟨cell_of_row _ _ 0 _ _ _ ((heap_setCell_other W _ _ _ (by simp)).trans hWX), cell_of_row _ _ 1 _ _ _ ((heap_setCell_other W _ _ _ (by simp)).trans hWX), cell_of_row _ _ 2 _ _ _ ((heap_setCell_other W _ _ _ (by simp)).trans hWX), cell_of_row _ _ 3 _ _ _ ((heap_setCell_other W _ _ _ (by simp)).trans hWX), cell_of_row _ _ 4 _ _ _ ((heap_setCell_other W _ _ _ (by simp)).trans hWX), cell_of_row _ _ 5 _ _ _ ((heap_setCell_other W _ _ _ (by simp)).trans hWX)⟩)
      (first | (refine step_append_copy (w := w4.drew) rfl _ _ rfl Try.underlying38 hi hz0 hz1 hz2 rfl (by decide) _ v _ _ hown1 (strsV_one _) (by omega) rfl rfl ?_; intro v' w' hown' hb'; obtain ⟨pp, nn, cc, rfl⟩ := own_slice hown') | (obtain ⟨W, hWe, hWA, hWh, hWb⟩ := six_store w' b0 x (.slice pp nn cc) 40 ((hb'.block _ (lt_of_get hA)).trans hA); refine upon_is (W := W) (by rw [← hWe]; exact six_run w' b0 x (.slice pp nn cc) 40 ((hb'.block _ (lt_of_get hA)).trans hA) _) ?_; have hWB := (hWh (b0 + 1) (by omega)).trans ((hb'.block _ (lt_of_get hB)).trans hB); have hWX := (hWh (b0 + 1 + 1) (by omega)).trans ((hb'.block _ (lt_of_get hx)).trans hx); have dB := cell_of_row W (b0 + 1) 0 _ _ _ hWB; have fB := frozen_of_row W (b0 + 1) 0 _ _ hWB; have hWh' : True → ∀ k, k ≠ b0 → W.heap[k]? = w'.heap[k]? := fun _ => hWh; clear hWe hWh))
    refine NoPanic.normal ?_
    go_wp2_with fail
    refine leaves_cons (f := 28) (args := #[.pointer (some ⟨b0, 0, none⟩), .pointer (some ⟨b0 + 1, 0, none⟩)]) (by simp) (by simp [go_sem]) ?_
    refine (ur_idle _ _ _).mono ?_
    rintro e u' w'' ⟨rfl, rfl, rfl⟩
    have hc : (W.setCell ⟨b0 + 1, 0, none⟩ (.bool true)).cell? ⟨b0 + 1, 0, none⟩ = some (.bool true) := cell_of_row _ _ 0 _ _ _ (heap_setCell_same _ _ 0 _ _ _ hWB)
    obtain ⟨hb4, hsome⟩ := hid trivial
    have hlt4 : b0 + 1 + 1 < w4.heap.size := lt_of_get hx
    have hb5 : Below b0 w w' := (hb4.trans ((drewN_below w4 1).mono (by omega))).trans (hb'.mono (show b0 ≤ w4.heap.size by omega))
    have hb6 := (hWb b0 w hb5 (Nat.le_refl _)).setCell (p := ⟨b0 + 1, 0, none⟩) (by simp) (.bool true)
    have ho6 : (W.setCell ⟨b0 + 1, 0, none⟩ (.bool true)).ownsRow b0 9 1 (.slice pp nn cc) x.vars.length (strsV x.vars) :=
      own_mono (own_same hown' (fun k hk => (heap_setCell_other _ _ _ _ (by show k ≠ b0 + 1; have : w4.heap.size ≤ k := hk; omega)).trans (hWh' trivial k (by have : w4.heap.size ≤ k := hk; omega)))) (show b0 ≤ w4.heap.size by omega)
    subst hb0
    exact ⟨_, results_cell_word rfl _ _ w.heap.size 40 (optCells x (.slice pp nn cc)) (0, 0) _ _ rfl ((heap_setCell_other _ _ _ _ (by simp)).trans hWA) Try.underlying40 rfl (by kernel_rfl) (w.heap.size + 1) (.bool true) rfl hc Try.underlying4 rfl, hb6, Or.inr ⟨x, _, hsome, rfl, ho6⟩⟩
end Go.Proofs.Ytgebocnomapchaa
