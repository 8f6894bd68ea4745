/- Maps keyed by small numbers, as the call itself makes them: what a look-up, a store and len give. For every program whose key type is an int8. -/
import Derived.Test.YtnpklkenjaambaaDoorKit
import Derived.MapKept
namespace Go.Proofs.YtnpklkenjaambaaDoor
open Go Go.RowKit Go.MapKept
set_option linter.unusedSimpArgs false
set_option linter.unusedVariables false

def keyIs (k : Int) (e : MapEntry) : Bool := match e.key with | .int .i8 j => k == j | _ => false

/-- Block b is a map of n entries keyed by small numbers, and at k it holds f k. -/
structure IMap (w : World) (b : Nat) (f : Int → Option Value) (n : Nat) : Prop where
  ex : ∃ es clock, w.heap[b]? = some (.map es clock) ∧ (∀ e ∈ es.toList, ∃ j, e.key = .int .i8 j) ∧ es.size = n ∧ ∀ k, (es.toList.find? (keyIs k)).map (·.val) = f k

theorem findNow_keys (k : Int) : ∀ (l : List MapEntry) (i : Nat), (∀ e ∈ l, ∃ j, e.key = .int .i8 j) →
    ∃ r, Instr.findNow (.int .i8) (.int .i8 k) l i = some r ∧ r.map (·.2) = (l.find? (keyIs k)).map (·.val) ∧ ∀ q, r = some q → i ≤ q.1 ∧ ∃ e, l[q.1 - i]? = some e ∧ e.key = .int .i8 k ∧ ∀ m, m < q.1 - i → ∀ e', l[m]? = some e' → keyIs k e' = false
  | [], i, _ => ⟨none, rfl, rfl, fun q h => by cases h⟩
  | e :: es, i, h => by
    obtain ⟨j, hj⟩ := h e (by simp)
    simp only [Instr.findNow, hj, Instr.sameNow, if_true]
    by_cases hk : k = j
    · subst hk
      refine ⟨some (i, e.val), by simp, by simp [keyIs, hj], fun q hq => ?_⟩
      cases hq
      exact ⟨Nat.le_refl _, e, by simp, hj, fun m hm => by omega⟩
    · have hb : (k == j) = false := by simp [hk]
      rw [hb]
      obtain ⟨r, h1, h2, h3⟩ := findNow_keys k es (i + 1) (fun e' he' => h e' (by simp [he']))
      refine ⟨r, h1, ?_, fun q hq => ?_⟩
      · rw [h2]; simp [keyIs, hj, hb]
      · obtain ⟨g1, e', g2, g3, g4⟩ := h3 q hq
        refine ⟨by omega, e', ?_, g3, fun m hm e'' he'' => ?_⟩
        · rw [show q.1 - i = (q.1 - (i + 1)) + 1 by omega, List.getElem?_cons_succ]; exact g2
        · cases m with
          | zero => simp at he''; subst he''; simp [keyIs, hj, hb]
          | succ m => exact g4 m (by omega) e'' (by simpa using he'')

theorem run_makeMap' (P : Program) (t : TypeId) (w : World) : (Instr.makeMap t none).run P w = .ok (.map (some w.heap.size)) (w.alloc (.map #[] 0)) := rfl
theorem imap_new (w : World) : IMap (w.alloc (.map #[] 0)) w.heap.size (fun _ => none) 0 :=
  ⟨#[], 0, by show (w.heap.push _)[_]? = _; simp, by simp, rfl, by simp⟩
theorem IMap.lt {w : World} {b : Nat} {f : Int → Option Value} {n : Nat} (h : IMap w b f n) : b < w.heap.size := by
  obtain ⟨es, c, hb, _⟩ := h.ex
  exact (Array.getElem?_eq_some_iff.1 hb).1
theorem IMap.same {w w' : World} {b : Nat} {f : Int → Option Value} {n : Nat} (h : IMap w b f n) (hb : w'.heap[b]? = w.heap[b]?) : IMap w' b f n := by
  obtain ⟨es, c, h1, h2⟩ := h.ex
  exact ⟨es, c, hb.trans h1, h2⟩
theorem IMap.below {w w' : World} {b : Nat} {f : Int → Option Value} {n : Nat} (h : IMap w b f n) (hw : Below w.heap.size w w') : IMap w' b f n := h.same (hw.block b h.lt)

section
variable {P : Program} {T K E : TypeId}

theorem checkKey_i8 (hK : P.underlying K = some (.int .i8)) (c : Bool) (k : Int) (w : World) : (Instr.checkKey c 10000 K (.int .i8 k)).run P w = .ok () w := by
  have h : ∀ m, (Instr.checkKey c (m + 1) K (.int .i8 k)).run P w = .ok () w := fun m => by simp [Instr.checkKey, run_underlying hK]
  exact h 9999
theorem findKey_i8 (hK : P.underlying K = some (.int .i8)) (k : Int) (es : List MapEntry) (w : World) (r : Option (Nat × Value)) (h : Instr.findNow (.int .i8) (.int .i8 k) es 0 = some r) :
    (Instr.findKey K (.int .i8 k) es).run P w = .ok r w := by
  simp [Instr.findKey, run_underlying hK, h]

theorem imap_lookup (hT : P.underlying T = some (.map K E)) (hK : P.underlying K = some (.int .i8)) {z : Value} {w : World} (hz : (zeroValue E).run P w = .ok z w) {b n : Nat} {f : Int → Option Value} (h : IMap w b f n) (k : Int) (c : Bool) :
    (Instr.lookup T (.map (some b)) (.int .i8 k) c).run P w = .ok (if c then .tuple #[(f k).getD z, .bool (f k).isSome] else (f k).getD z) w := by
  obtain ⟨es, clock, hb, hk, hn, hf⟩ := h.ex
  obtain ⟨r, h1, h2, h3⟩ := findNow_keys k es.toList 0 hk
  have hfk : r.map (·.2) = f k := by rw [h2]; exact hf k
  have g := findKey_i8 (P := P) hK k es.toList w r h1
  have gc := fun c => checkKey_i8 (P := P) hK c k w
  have gb := Go.MapKept.run_getObj_map (P := P) hb
  cases r with
  | none =>
    simp at hfk
    rw [← hfk]
    cases c <;> simp [Instr.lookup, run_underlying hT, g, gc, gb, hz]
  | some q =>
    simp at hfk
    rw [← hfk]
    cases c <;> simp [Instr.lookup, run_underlying hT, g, gc, gb]

/-- What a store at k makes of the map. -/
def mput (f : Int → Option Value) (k : Int) (v : Value) : Int → Option Value := fun j => if j = k then some v else f j

theorem find_modify (k : Int) (v : Value) (j : Int) : ∀ (l : List MapEntry) (i : Nat) (e : MapEntry), l[i]? = some e → e.key = .int .i8 k → (∀ m, m < i → ∀ e', l[m]? = some e' → keyIs k e' = false) →
    ((l.modify i fun e => { e with key := .int .i8 k, val := v }).find? (keyIs j)).map (·.val) = if j = k then some v else (l.find? (keyIs j)).map (·.val)
  | [], i, e, h, _, _ => by simp at h
  | x :: l, 0, e, h, hk, _ => by
    simp at h
    subst h
    by_cases hj : j = k
    · subst hj; simp [keyIs]
    · have h1 : (j == k) = false := by simp [hj]
      simp [keyIs, hk, h1, hj]
  | x :: l, i + 1, e, h, hk, hb => by
    have hx := hb 0 (by omega) x (by simp)
    have ih := find_modify k v j l i e (by simpa using h) hk (fun m hm e' he' => hb (m + 1) (by omega) e' (by simpa using he'))
    rw [List.modify_succ_cons]
    by_cases hj : j = k
    · subst hj
      simp only [List.find?_cons, hx]
      simpa using ih
    · cases hxx : keyIs j x with
      | true => simp [List.find?_cons, hxx, hj]
      | false => simp only [List.find?_cons, hxx]; exact ih
theorem find_push (k : Int) (v : Value) (c : Nat) (j : Int) (l : List MapEntry) (hn : l.find? (keyIs k) = none) :
    ((l ++ [({ key := .int .i8 k, val := v, born := c } : MapEntry)]).find? (keyIs j)).map (·.val) = if j = k then some v else (l.find? (keyIs j)).map (·.val) := by
  rw [List.find?_append]
  by_cases hj : j = k
  · subst hj
    rw [hn]
    simp [keyIs]
  · have h1 : (j == k) = false := by simp [hj]
    rw [if_neg hj]
    cases hf : l.find? (keyIs j) with
    | none => simp [keyIs, h1]
    | some e => simp
theorem stays (k : Int) (P : Program) (w : World) : (Instr.keyThatStays (.int .i8 k) (.int .i8 k)).run P w = .ok (.int .i8 k) w := by
  have h : ∀ m, Instr.sameBits m (.int .i8 k) (.int .i8 k) = true := fun m => by cases m <;> simp [Instr.sameBits]
  simp [Instr.keyThatStays, h 10000]
theorem heap_setBlock (w : World) (b : Nat) (o : Obj) (h : b < w.heap.size) : (Go.ChangeMaps.setBlock w b o).heap[b]? = some o := by
  show (w.heap.setIfInBounds b o)[b]? = some o
  simp [h]

theorem imap_update (hT : P.underlying T = some (.map K E)) (hK : P.underlying K = some (.int .i8)) {w : World} {b n : Nat} {f : Int → Option Value} (h : IMap w b f n) (k : Int) (v : Value) :
    ∃ o, (Instr.mapUpdate T (.map (some b)) (.int .i8 k) v).run P w = .ok () (Go.ChangeMaps.setBlock w b o) ∧ IMap (Go.ChangeMaps.setBlock w b o) b (mput f k v) (if (f k).isSome then n else n + 1) := by
  have hlt := h.lt
  obtain ⟨es, clock, hb, hk, hn, hf⟩ := h.ex
  obtain ⟨r, h1, h2, h3⟩ := findNow_keys k es.toList 0 hk
  have hfk : r.map (·.2) = f k := by rw [h2]; exact hf k
  have g := findKey_i8 (P := P) hK k es.toList w r h1
  have gc := fun c => checkKey_i8 (P := P) hK c k w
  have gb := Go.MapKept.run_getObj_map (P := P) hb
  have gs := fun o => Go.MapKept.run_setObj_map (P := P) o hb
  cases r with
  | none =>
    simp at hfk
    rw [← hfk]
    refine ⟨.map (es.push { key := .int .i8 k, val := v, born := clock }) (clock + 1), ?_, ?_⟩
    · simp [Instr.mapUpdate, run_underlying hT, g, gc, gb, gs]
      rfl
    · refine ⟨_, _, heap_setBlock _ _ _ hlt, ?_, by simp [hn], fun j => ?_⟩
      · intro e he
        simp at he
        rcases he with he | rfl
        · exact hk e (by simpa using he)
        · exact ⟨k, rfl⟩
      · have hnone : es.toList.find? (keyIs k) = none := by
          have := hf k
          rw [← hfk] at this
          simpa using this
        rw [Array.toList_push, find_push k v clock j es.toList hnone]
        unfold mput
        rw [hf j]
  | some q =>
    simp at hfk
    rw [← hfk]
    obtain ⟨_, e, he, hek, hbef⟩ := h3 q rfl
    simp only [Nat.sub_zero] at he hbef
    have hes : es[q.1]? = some e := by simpa using he
    refine ⟨.map (es.modify q.1 fun e => { e with key := .int .i8 k, val := v }) clock, ?_, ?_⟩
    · have gst := stays k P w
      simp [Instr.mapUpdate, run_underlying hT, g, gc, gb, gs, hes, hek, gst]
      rfl
    · refine ⟨_, _, heap_setBlock _ _ _ hlt, ?_, by simp [hn], fun j => ?_⟩
      · intro e' he'
        rw [Array.toList_modify] at he'
        obtain ⟨m, hm, hme⟩ := List.getElem_of_mem he'
        rw [List.getElem_modify] at hme
        split at hme
        · subst hme; exact ⟨k, rfl⟩
        · subst hme; exact hk _ (List.getElem_mem _)
      · rw [Array.toList_modify, find_modify k v j es.toList q.1 e he hek hbef]
        unfold mput
        rw [hf j]
theorem imap_len (hT : P.underlying T = some (.map K E)) {w : World} {b n : Nat} {f : Int → Option Value} (h : IMap w b f n) (t : TypeId) :
    (Builtin.len_ #[T] t #[.map (some b)]).run P w = .ok (.int .i64 n) w := by
  obtain ⟨es, clock, hb, hk, hn, hf⟩ := h.ex
  have gb := Go.MapKept.run_getObj_map (P := P) hb
  simp [Builtin.len_, run_underlying hT, gb, hn, goInt]
end
theorem below_setBlock {B : Nat} {a w : World} (h : Below B a w) {b : Nat} (hb : B ≤ b) (o : Obj) : Below B a (Go.ChangeMaps.setBlock w b o) :=
  h.trans ⟨rfl, rfl, rfl, by show _ ≤ (w.heap.setIfInBounds b o).size; simp, fun k hk => by show (w.heap.setIfInBounds b o)[k]? = _; rw [Array.getElem?_setIfInBounds_ne (by omega)]⟩
end Go.Proofs.YtnpklkenjaambaaDoor
