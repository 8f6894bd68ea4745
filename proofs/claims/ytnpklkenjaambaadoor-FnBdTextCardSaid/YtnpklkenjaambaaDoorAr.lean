/- An argument that is an array of integers: what its data say, and that it reads as it did. For every program whose array has n elements of one cell. -/
import Derived.Test.YtnpklkenjaambaaDoorPi
import Derived.WideKeyArr2
import Derived.Lib.LaidTab
import Derived.RowKit
namespace Go.Proofs.YtnpklkenjaambaaDoor
open Go Go.RowKit Go.ChangeShapes Go.WideShapes
set_option linter.unusedSimpArgs false
set_option linter.unusedVariables false

section
variable {H : Type} {enc : TypeId × Value → H} {P : Program} {k e : TypeId} {n : Nat} {W : World} {base : Nat} {sp : Nat → Bool} {held : Bool}
def litsOf (zs : List Int) : List (DataW H) := zs.map fun z => .lit (.int .i64 z)
theorem mapM_all {α β : Type} {f : α → Option β} {g : α → β} : ∀ L : List α, (∀ i ∈ L, f i = some (g i)) → L.mapM f = some (L.map g)
  | [], _ => rfl
  | i :: L, h => by
    rw [List.mapM_cons, h i (by simp), mapM_all L (fun j hj => h j (by simp [hj]))]
    rfl
theorem mapM_len {α β : Type} {f : α → Option β} : ∀ (L : List α) (xs : List β), L.mapM f = some xs → xs.length = L.length
  | [], xs, h => by simp at h; subst h; rfl
  | i :: L, xs, h => by
    rw [List.mapM_cons] at h
    simp only [bind, Option.bind_eq_some_iff, pure, Option.some.injEq] at h
    obtain ⟨y, _, ys, hys, rfl⟩ := h
    simp [mapM_len L ys hys]
theorem mapM_get {α β : Type} {f : α → Option β} : ∀ (L : List α) (xs : List β), L.mapM f = some xs → ∀ (i : Nat) (a : α), L[i]? = some a → ∃ y, xs[i]? = some y ∧ f a = some y
  | [], xs, h, i, a, ha => by simp at ha
  | b :: L, xs, h, i, a, ha => by
    rw [List.mapM_cons] at h
    simp only [bind, Option.bind_eq_some_iff, pure, Option.some.injEq] at h
    obtain ⟨y, hy, ys, hys, rfl⟩ := h
    cases i with
    | zero => simp at ha; subst ha; exact ⟨y, rfl, hy⟩
    | succ i => simpa using mapM_get L ys hys i a (by simpa using ha)
theorem open_arr_ints (A : WideMaps.ArrKey P k e n) (he : P.underlying e = some (.int .i64)) {r : Reach} {b0 : Nat} {v : Value} {d : DataW H} {ps : List MemPlace} (hval : Value.okWide P W r b0 k v) (hd : DataW.Trod enc P W base sp held k v d ps) :
    ∃ zs : List Int, v = .agg (ints zs) ∧ d = .agg (litsOf zs) ∧ ps = [] ∧ zs.length = n ∧ ∀ z ∈ zs, (Lit.int .i64 z).wf = true := by
  obtain ⟨cs, rfl, hn⟩ := WideMaps.okWide_arr A hval
  obtain ⟨fuel, hf⟩ := hd
  cases fuel with
  | zero => simp [DataW.trod] at hf
  | succ m =>
    rw [DataW.trod_step] at hf
    unfold DataW.trodStep at hf
    simp only [A.hu, Value.cells] at hf
    rw [if_pos (by rw [A.size]; simpa using hn)] at hf
    simp only [Option.map_eq_some_iff, A.one, Nat.mul_one] at hf
    obtain ⟨xs, hm, e1⟩ := hf
    have hxl : xs.length = n := by simpa using mapM_len _ _ hm
    have hat : ∀ i, i < n → ∃ z, cs[i]? = some (.int .i64 z) ∧ xs[i]? = some (.lit (.int .i64 z), []) ∧ (Lit.int .i64 z).wf = true := fun i hi => by
      obtain ⟨y, hy, hfy⟩ := mapM_get _ _ hm i i (by simp [hi])
      obtain ⟨z, hc, rfl, wz⟩ := DataW.trod_int he hfy
      refine ⟨z, ?_, hy, wz⟩
      have := congrArg (·[0]?) hc
      simpa [List.getElem?_take, List.getElem?_drop] using this
    let zs : List Int := cs.toList.map fun v => match v with | .int _ z => z | _ => 0
    have hzl : zs.length = n := by simp [zs, hn]
    have hz : ∀ i, i < n → ∃ z, zs[i]? = some z ∧ cs[i]? = some (.int .i64 z) ∧ xs[i]? = some (.lit (.int .i64 z), []) ∧ (Lit.int .i64 z).wf = true := fun i hi => by
      obtain ⟨z, h1, h2, h3⟩ := hat i hi
      refine ⟨z, ?_, h1, h2, h3⟩
      simp [zs, h1]
    refine ⟨zs, ?_, ?_, ?_, hzl, ?_⟩
    · congr 1
      apply Array.ext'
      apply List.ext_getElem?
      intro i
      by_cases hi : i < n
      · obtain ⟨z, h0, h1, _⟩ := hz i hi
        simp [ints, h0, h1]
      · simp only [ints, List.getElem?_map]
        rw [List.getElem?_eq_none (by simp [hn]; omega), List.getElem?_eq_none (by omega)]
        rfl
    · refine (congrArg Prod.fst e1).symm.trans ?_
      show DataW.agg (xs.map (·.1)) = _
      congr 1
      apply List.ext_getElem?
      intro i
      by_cases hi : i < n
      · obtain ⟨z, h0, _, h2, _⟩ := hz i hi
        simp [litsOf, h0, h2]
      · rw [List.getElem?_eq_none (by simp; omega), List.getElem?_eq_none (by simp [litsOf]; omega)]
    · refine (congrArg Prod.snd e1).symm.trans ?_
      show xs.flatMap (·.2) = []
      rw [List.flatMap_eq_nil_iff]
      intro x hx
      obtain ⟨i, hi, rfl⟩ := List.getElem_of_mem hx
      obtain ⟨z, _, _, h2, _⟩ := hz i (by omega)
      rw [List.getElem?_eq_getElem hi] at h2
      simp only [Option.some.injEq] at h2
      rw [h2]
    · intro z hzm
      obtain ⟨i, hi, rfl⟩ := List.getElem_of_mem hzm
      obtain ⟨z, h0, _, _, h3⟩ := hz i (by omega)
      rw [List.getElem?_eq_getElem hi] at h0
      simp only [Option.some.injEq] at h0
      rw [h0]
      exact h3
theorem shut_arr_ints (A : WideMaps.ArrKey P k e n) (he : P.underlying e = some (.int .i64)) {zs : List Int} (hl : zs.length = n) (hw : ∀ z ∈ zs, (Lit.int .i64 z).wf = true) : DataW.Trod enc P W base sp held k (.agg (ints zs)) (.agg (litsOf zs)) [] :=
  ⟨2, by
    show DataW.trod enc P W base sp held (1 + 1) k (ints zs).toList = _
    rw [DataW.trod_step]
    unfold DataW.trodStep
    simp only [A.hu]
    rw [if_pos (by rw [A.size]; simp [ints, hl])]
    simp only [A.one, Nat.mul_one]
    rw [mapM_all (g := fun i => (.lit (.int .i64 (zs.getD i 0)), [])) (List.range n) (fun i hi => by
      have hi' : i < zs.length := by rw [hl]; exact List.mem_range.1 hi
      have h1 : ((ints zs).toList.drop i).take 1 = [.int .i64 (zs.getD i 0)] := by
        apply List.ext_getElem?
        intro j
        cases j with
        | zero => simp [ints, List.getElem?_take, List.getElem?_drop, hi']
        | succ j => rw [List.getElem?_eq_none (by simp; omega), List.getElem?_eq_none (by simp)]
      have h2 : (Lit.int .i64 (zs.getD i 0)).wf = true := by
        have : zs.getD i 0 = zs[i] := by simp [hi']
        rw [this]
        exact hw _ (List.getElem_mem hi')
      rw [h1]
      simp [DataW.trod, he]
      simpa using h2)]
    simp only [Option.map_some, Option.some.injEq, Prod.mk.injEq, List.map_map]
    refine ⟨?_, ?_⟩
    · congr 1
      unfold litsOf
      apply List.ext_getElem
      · simp [hl]
      · intro i h1 h2
        simp at h1 h2
        simp [h2]
    · rw [List.flatMap_eq_nil_iff]
      intro x hx
      obtain ⟨i, _, rfl⟩ := List.mem_map.1 hx
      rfl⟩
end
end Go.Proofs.YtnpklkenjaambaaDoor
