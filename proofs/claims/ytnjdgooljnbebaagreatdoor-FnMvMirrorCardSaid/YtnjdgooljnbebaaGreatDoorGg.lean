/- An argument that is an array of integers: what its data say, and that it reads as it did. For every program whose array has n elements of one cell.
An argument that is a position (a board of 64 and five numbers): what its data say, and that it reads as it did. For every program with such a struct. -/
import Derived.WideKeyArr2
import Derived.Lib.LaidTab
import Derived.RowKit
import Derived.Lib.SmallJoins
import Derived.Test.YtnjdgooljnbebaaGreatDoorGa
namespace Go.Proofs.YtnjdgooljnbebaaGreatDoor
open Go Go.RowKit Go.ChangeShapes Go.WideShapes
set_option linter.unusedSimpArgs false
set_option linter.unusedVariables false

section
variable {H : Type} {enc : TypeId × Value → H} {P : Program} {k e : TypeId} {n : Nat} {W : World} {base : Nat} {sp : Nat → Bool} {held : Bool}
def litsOf (zs : List Int) : List (DataW H) := zs.map fun z => .lit (.int .i64 z)
theorem mapM_all {α β : Type} {f : α → Option β} {g : α → β} : ∀ L : List α, (∀ i ∈ L, f i = some (g i)) → L.mapM f = some (L.map g)
  | [], _ => rfl
  | i :: L, h => by
    rw [List.mapM_cons, h i (by simp), mapM_all L (fun j hj => h j (by simp [hj]))]
    rfl
theorem mapM_len {α β : Type} {f : α → Option β} : ∀ (L : List α) (xs : List β), L.mapM f = some xs → xs.length = L.length
  | [], xs, h => by simp at h; subst h; rfl
  | i :: L, xs, h => by
    rw [List.mapM_cons] at h
    simp only [bind, Option.bind_eq_some_iff, pure, Option.some.injEq] at h
    obtain ⟨y, _, ys, hys, rfl⟩ := h
    simp [mapM_len L ys hys]
theorem mapM_get {α β : Type} {f : α → Option β} : ∀ (L : List α) (xs : List β), L.mapM f = some xs → ∀ (i : Nat) (a : α), L[i]? = some a → ∃ y, xs[i]? = some y ∧ f a = some y
  | [], xs, h, i, a, ha => by simp at ha
  | b :: L, xs, h, i, a, ha => by
    rw [List.mapM_cons] at h
    simp only [bind, Option.bind_eq_some_iff, pure, Option.some.injEq] at h
    obtain ⟨y, hy, ys, hys, rfl⟩ := h
    cases i with
    | zero => simp at ha; subst ha; exact ⟨y, rfl, hy⟩
    | succ i => simpa using mapM_get L ys hys i a (by simpa using ha)
end
end Go.Proofs.YtnjdgooljnbebaaGreatDoor
namespace Go.Proofs.YtnjdgooljnbebaaGreatDoor
open Go Go.RowKit Go.ChangeShapes Go.WideShapes
set_option linter.unusedSimpArgs false
set_option linter.unusedVariables false

section
variable {H : Type} {enc : TypeId × Value → H} {P : Program} {t k e : TypeId} {n : Nat} {W : World} {base : Nat} {sp : Nat → Bool} {held : Bool}
theorem trod_arr_ints (A : WideMaps.ArrKey P k e n) (he : P.underlying e = some (.int .i64)) {m : Nat} {l : List Value} {x : DataW H × List MemPlace} (hf : DataW.trod enc P W base sp held m k l = some x) :
    ∃ zs : List Int, l = zs.map (Value.int .i64) ∧ x = (.agg (litsOf zs), []) ∧ zs.length = n ∧ ∀ z ∈ zs, (Lit.int .i64 z).wf = true := by
  cases m with
  | zero => simp [DataW.trod] at hf
  | succ m =>
    rw [DataW.trod_step] at hf
    unfold DataW.trodStep at hf
    simp only [A.hu] at hf
    split at hf
    · rename_i hl
      rw [A.size] at hl
      simp only [Option.map_eq_some_iff, A.one, Nat.mul_one] at hf
      obtain ⟨xs, hm, e1⟩ := hf
      have hxl : xs.length = n := by simpa using mapM_len _ _ hm
      have hat : ∀ i, i < n → ∃ z, l[i]? = some (.int .i64 z) ∧ xs[i]? = some (.lit (.int .i64 z), []) ∧ (Lit.int .i64 z).wf = true := fun i hi => by
        obtain ⟨y, hy, hfy⟩ := mapM_get _ _ hm i i (by simp [hi])
        obtain ⟨z, hc, rfl, wz⟩ := DataW.trod_int he hfy
        refine ⟨z, ?_, hy, wz⟩
        have := congrArg (·[0]?) hc
        simpa [List.getElem?_take, List.getElem?_drop] using this
      let zs : List Int := l.map fun v => match v with | .int _ z => z | _ => 0
      have hzl : zs.length = n := by simp [zs, hl]
      have hz : ∀ i, i < n → ∃ z, zs[i]? = some z ∧ l[i]? = some (.int .i64 z) ∧ xs[i]? = some (.lit (.int .i64 z), []) ∧ (Lit.int .i64 z).wf = true := fun i hi => by
        obtain ⟨z, h1, h2, h3⟩ := hat i hi
        refine ⟨z, ?_, h1, h2, h3⟩
        simp [zs, h1]
      refine ⟨zs, ?_, ?_, hzl, ?_⟩
      · apply List.ext_getElem?
        intro i
        by_cases hi : i < n
        · obtain ⟨z, h0, h1, _⟩ := hz i hi
          simp [h0, h1]
        · simp only [List.getElem?_map]
          rw [List.getElem?_eq_none (by omega), List.getElem?_eq_none (by omega)]
          rfl
      · rw [← e1]
        refine Prod.ext ?_ ?_
        · show DataW.agg (xs.map (·.1)) = _
          congr 1
          apply List.ext_getElem?
          intro i
          by_cases hi : i < n
          · obtain ⟨z, h0, _, h2, _⟩ := hz i hi
            simp [litsOf, h0, h2]
          · rw [List.getElem?_eq_none (by simp; omega), List.getElem?_eq_none (by simp [litsOf]; omega)]
        · show xs.flatMap (·.2) = []
          rw [List.flatMap_eq_nil_iff]
          intro x hx
          obtain ⟨i, hi, rfl⟩ := List.getElem_of_mem hx
          obtain ⟨z, _, _, h2, _⟩ := hz i (by omega)
          rw [List.getElem?_eq_getElem hi] at h2
          simp only [Option.some.injEq] at h2
          rw [h2]
      · intro z hzm
        obtain ⟨i, hi, rfl⟩ := List.getElem_of_mem hzm
        obtain ⟨z, h0, _, _, h3⟩ := hz i (by omega)
        rw [List.getElem?_eq_getElem hi] at h0
        simp only [Option.some.injEq] at h0
        rw [h0]
        exact h3
    · cases hf
theorem trod_arr_mk (A : WideMaps.ArrKey P k e n) (he : P.underlying e = some (.int .i64)) {zs : List Int} (hl : zs.length = n) (hw : ∀ z ∈ zs, (Lit.int .i64 z).wf = true) :
    DataW.trod enc P W base sp held 2 k (zs.map (Value.int .i64)) = some (.agg (litsOf zs), []) := by
  show DataW.trod enc P W base sp held (1 + 1) k _ = _
  rw [DataW.trod_step]
  unfold DataW.trodStep
  simp only [A.hu]
  rw [if_pos (by rw [A.size]; simp [hl])]
  simp only [A.one, Nat.mul_one]
  rw [mapM_all (g := fun i => (.lit (.int .i64 (zs.getD i 0)), [])) (List.range n) (fun i hi => by
    have hi' : i < zs.length := by rw [hl]; exact List.mem_range.1 hi
    have h1 : ((zs.map (Value.int .i64)).drop i).take 1 = [.int .i64 (zs.getD i 0)] := by
      apply List.ext_getElem?
      intro j
      cases j with
      | zero => simp [List.getElem?_take, List.getElem?_drop, hi']
      | succ j => rw [List.getElem?_eq_none (by simp; omega), List.getElem?_eq_none (by simp)]
    have h2 : (Lit.int .i64 (zs.getD i 0)).wf = true := by
      have : zs.getD i 0 = zs[i] := by simp [hi']
      rw [this]
      exact hw _ (List.getElem_mem hi')
    rw [h1]
    simp [DataW.trod, he]
    simpa using h2)]
  simp only [Option.map_some, Option.some.injEq, Prod.mk.injEq, List.map_map]
  refine ⟨?_, ?_⟩
  · congr 1
    unfold litsOf
    apply List.ext_getElem
    · simp [hl]
    · intro i h1 h2
      simp at h1 h2
      simp [h2]
  · rw [List.flatMap_eq_nil_iff]
    intro x hx
    obtain ⟨i, _, rfl⟩ := List.mem_map.1 hx
    rfl
/-- The struct of a position. -/
structure PosKey (P : Program) (t k e : TypeId) : Prop where
  ex : ∃ f0 f1 f2 f3 f4 f5 : Field, P.underlying t = some (.struct #[f0, f1, f2, f3, f4, f5]) ∧ f0.type = k ∧ f0.offset = 0 ∧ f1.type = e ∧ f1.offset = 64 ∧ f2.type = e ∧ f2.offset = 65 ∧ f3.type = e ∧ f3.offset = 66 ∧ f4.type = e ∧ f4.offset = 67 ∧ f5.type = e ∧ f5.offset = 68
  size : P.cellsOf t = 69
  arr : WideMaps.ArrKey P k e 64
  int : P.underlying e = some (.int .i64)
  one : P.cellsOf e = 1
  k64 : P.cellsOf k = 64
def posData (zs : List Int) : List (DataW H) := .agg (litsOf (zs.take 64)) :: litsOf (zs.drop 64)
theorem drop_all (zs : List Int) (h : zs.length = 69) : zs.drop 64 = [zs.getD 64 0, zs.getD 65 0, zs.getD 66 0, zs.getD 67 0, zs.getD 68 0] := by
  apply List.ext_getElem?
  intro i
  match i with
  | 0 => simp [List.getElem?_drop, h]
  | 1 => simp [List.getElem?_drop, h]
  | 2 => simp [List.getElem?_drop, h]
  | 3 => simp [List.getElem?_drop, h]
  | 4 => simp [List.getElem?_drop, h]
  | i + 5 => rw [List.getElem?_eq_none (by simp [h]), List.getElem?_eq_none (by simp)]
theorem six_of {α : Type} {xs : List α} (h : xs.length = 6) : ∃ y0 y1 y2 y3 y4 y5, xs = [y0, y1, y2, y3, y4, y5] := by
  match xs, h with
  | [y0, y1, y2, y3, y4, y5], _ => exact ⟨y0, y1, y2, y3, y4, y5, rfl⟩
theorem cut69 {l : List Value} (h : l.length = 69) : l = (l.take 64) ++ ((l.drop 64).take 1 ++ ((l.drop 65).take 1 ++ ((l.drop 66).take 1 ++ ((l.drop 67).take 1 ++ (l.drop 68).take 1)))) := by
  apply List.ext_getElem?
  intro i
  simp only [List.getElem?_append, List.getElem?_take, List.getElem?_drop, List.length_take, List.length_drop, h]
  by_cases h1 : i < 64
  · simp [h1]
  · by_cases h5 : i < 69
    · rcases (show i = 64 ∨ i = 65 ∨ i = 66 ∨ i = 67 ∨ i = 68 by omega) with rfl | rfl | rfl | rfl | rfl <;> simp
    · rw [List.getElem?_eq_none (by omega)]
      repeat' split
      all_goals first | omega | rfl | (rw [List.getElem?_eq_none (by omega)])
theorem open_pos (A : PosKey P t k e) {r : Reach} {b0 : Nat} {v : Value} {d : DataW H} {ps : List MemPlace} (hval : Value.okWide P W r b0 t v) (hd : DataW.Trod enc P W base sp held t v d ps) :
    ∃ zs : List Int, v = .agg (ints zs) ∧ d = .agg (posData zs) ∧ ps = [] ∧ zs.length = 69 ∧ ∀ z ∈ zs, (Lit.int .i64 z).wf = true := by
  obtain ⟨f0, f1, f2, f3, f4, f5, hu, t0, o0, t1, o1, t2, o2, t3, o3, t4, o4, t5, o5⟩ := A.ex
  obtain ⟨cs, rfl, hsz⟩ := okWide_struct hu hval
  have hn : cs.toList.length = 69 := by rw [Array.length_toList]; exact hsz.trans A.size
  obtain ⟨fuel, hf⟩ := hd
  have hf' : DataW.trod enc P W base sp held fuel t cs.toList = some (d, ps) := hf
  obtain ⟨xs, m, _, hx, hl, hlen, hall⟩ := DataW.trod_struct hu hf'
  obtain ⟨y0, y1, y2, y3, y4, y5, rfl⟩ := six_of (xs := xs) hlen
  have h0 : DataW.trod enc P W base sp held m k (cs.toList.take 64) = some y0 := by simpa [t0, o0, A.k64] using hall 0 f0 rfl
  have h1 : DataW.trod enc P W base sp held m e ((cs.toList.drop 64).take 1) = some y1 := by simpa [t1, o1, A.one] using hall 1 f1 rfl
  have h2 : DataW.trod enc P W base sp held m e ((cs.toList.drop 65).take 1) = some y2 := by simpa [t2, o2, A.one] using hall 2 f2 rfl
  have h3 : DataW.trod enc P W base sp held m e ((cs.toList.drop 66).take 1) = some y3 := by simpa [t3, o3, A.one] using hall 3 f3 rfl
  have h4 : DataW.trod enc P W base sp held m e ((cs.toList.drop 67).take 1) = some y4 := by simpa [t4, o4, A.one] using hall 4 f4 rfl
  have h5 : DataW.trod enc P W base sp held m e ((cs.toList.drop 68).take 1) = some y5 := by simpa [t5, o5, A.one] using hall 5 f5 rfl
  obtain ⟨zs, c0, rfl, l0, w0⟩ := trod_arr_ints A.arr A.int h0
  obtain ⟨z1, c1, rfl, w1⟩ := DataW.trod_int A.int h1
  obtain ⟨z2, c2, rfl, w2⟩ := DataW.trod_int A.int h2
  obtain ⟨z3, c3, rfl, w3⟩ := DataW.trod_int A.int h3
  obtain ⟨z4, c4, rfl, w4⟩ := DataW.trod_int A.int h4
  obtain ⟨z5, c5, rfl, w5⟩ := DataW.trod_int A.int h5
  obtain ⟨rfl, rfl⟩ := Prod.mk.inj hx
  refine ⟨zs ++ [z1, z2, z3, z4, z5], ?_, ?_, rfl, by simp [l0], ?_⟩
  · congr 1
    apply Array.ext'
    rw [cut69 hn, c0, c1, c2, c3, c4, c5]
    simp [ints]
  · unfold posData
    have e1 : (zs ++ [z1, z2, z3, z4, z5]).take 64 = zs := by rw [← l0, List.take_left']; rfl
    have e2 : (zs ++ [z1, z2, z3, z4, z5]).drop 64 = [z1, z2, z3, z4, z5] := by rw [← l0, List.drop_left']; rfl
    rw [e1, e2]
    rfl
  · intro z hz
    simp only [List.mem_append, List.mem_cons, List.not_mem_nil, or_false] at hz
    rcases hz with h | rfl | rfl | rfl | rfl | rfl
    · exact w0 z h
    · exact w1
    · exact w2
    · exact w3
    · exact w4
    · exact w5
theorem trod_one (he : P.underlying e = some (.int .i64)) (z : Int) (hw : (Lit.int .i64 z).wf = true) : DataW.trod enc P W base sp held 2 e [.int .i64 z] = some (.lit (.int .i64 z), []) := by
  simp [DataW.trod, he]
  simpa using hw
theorem shut_pos (A : PosKey P t k e) {zs : List Int} (hl : zs.length = 69) (hw : ∀ z ∈ zs, (Lit.int .i64 z).wf = true) : DataW.Trod enc P W base sp held t (.agg (ints zs)) (.agg (posData zs)) [] := by
  obtain ⟨f0, f1, f2, f3, f4, f5, hu, t0, o0, t1, o1, t2, o2, t3, o3, t4, o4, t5, o5⟩ := A.ex
  have hd := drop_all zs hl
  have hwd : ∀ i, i < 69 → (Lit.int .i64 (zs.getD i 0)).wf = true := fun i hi => by
    have : zs.getD i 0 = zs[i]'(by omega) := by simp [hl, hi]
    rw [this]; exact hw _ (List.getElem_mem _)
  have one : ∀ i, i < 69 → ((zs.map (Value.int .i64)).drop i).take 1 = [.int .i64 (zs.getD i 0)] := fun i hi => by
    apply List.ext_getElem?
    intro j
    cases j with
    | zero => simp [List.getElem?_take, List.getElem?_drop, hl, hi]
    | succ j => rw [List.getElem?_eq_none (by simp; omega), List.getElem?_eq_none (by simp)]
  refine ⟨3, ?_⟩
  have hc : (ints zs).toList = zs.map (Value.int .i64) := by simp [ints]
  show DataW.trod enc P W base sp held (2 + 1) t (ints zs).toList = _
  rw [hc]
  unfold posData
  rw [hd]
  have b64 := trod_one (enc := enc) (W := W) (base := base) (sp := sp) (held := held) A.int _ (hwd 64 (by omega))
  have q64 := one 64 (by omega)
  have b65 := trod_one (enc := enc) (W := W) (base := base) (sp := sp) (held := held) A.int _ (hwd 65 (by omega))
  have q65 := one 65 (by omega)
  have b66 := trod_one (enc := enc) (W := W) (base := base) (sp := sp) (held := held) A.int _ (hwd 66 (by omega))
  have q66 := one 66 (by omega)
  have b67 := trod_one (enc := enc) (W := W) (base := base) (sp := sp) (held := held) A.int _ (hwd 67 (by omega))
  have q67 := one 67 (by omega)
  have b68 := trod_one (enc := enc) (W := W) (base := base) (sp := sp) (held := held) A.int _ (hwd 68 (by omega))
  have q68 := one 68 (by omega)
  clear hwd one hd
  generalize zs.getD 64 0 = z64 at *
  generalize zs.getD 65 0 = z65 at *
  generalize zs.getD 66 0 = z66 at *
  generalize zs.getD 67 0 = z67 at *
  generalize zs.getD 68 0 = z68 at *
  have := trod_struct_mk (enc := enc) (w := W) (base := base) (spare := sp) (held := held) (n := 2) (cs := zs.map (Value.int .i64))
    (xs := [(.agg (litsOf (zs.take 64)), []), (.lit (.int .i64 z64), []), (.lit (.int .i64 z65), []), (.lit (.int .i64 z66), []), (.lit (.int .i64 z67), []), (.lit (.int .i64 z68), [])]) hu (by rw [A.size]; simp [hl]) (by
      have a0 : DataW.trod enc P W base sp held 2 k ((zs.map (Value.int .i64)).take 64) = some (.agg (litsOf (zs.take 64)), []) := by
        rw [← List.map_take]
        exact trod_arr_mk A.arr A.int (by simp [hl]) (fun z hz => hw z (List.mem_of_mem_take hz))
      simp [t0, o0, t1, o1, t2, o2, t3, o3, t4, o4, t5, o5, A.k64, A.one, a0, q64, q65, q66, q67, q68, b64, b65, b66, b67, b68])
  rw [this]
  rfl
end
end Go.Proofs.YtnjdgooljnbebaaGreatDoor
