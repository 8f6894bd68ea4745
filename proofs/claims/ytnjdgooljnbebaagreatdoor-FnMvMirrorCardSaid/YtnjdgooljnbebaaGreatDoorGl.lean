/- The castling moves (castleMoves): words and laws for the walk.
spec.Checked, spec.InCheck, spec.Status. For every sound position. -/
import Derived.Test.YtnjdgooljnbebaaGreatDoorG4
import Derived.Test.YtnjdgooljnbebaaGreatDoorGk
import Derived.Test.YtnjdgooljnbebaaGreatDoorGi
import Derived.Test.YtnjdgooljnbebaaGreatDoorGe
namespace Go.Proofs.YtnjdgooljnbebaaGreatDoor
open Go Go.RowKit
set_option maxHeartbeats 8000000
set_option linter.unusedSimpArgs false
set_option linter.unusedVariables false
set_option maxRecDepth 100000

theorem has_nat (c : Int) (r : Nat) (h0 : 0 ≤ c) (hr : r < 4) : decide (c.toNat / 2 ^ r % 2 = 1) = hasR c r := by
  unfold hasR
  obtain ⟨n, rfl⟩ := Int.eq_ofNat_of_zero_le h0
  rw [Int.toNat_natCast]
  apply dec_eq
  rcases (show r = 0 ∨ r = 1 ∨ r = 2 ∨ r = 3 by omega) with rfl | rfl | rfl | rfl
  · show n / 1 % 2 = 1 ↔ (n : Int) / 1 % 2 = 1; omega
  · show n / 2 % 2 = 1 ↔ (n : Int) / 2 % 2 = 1; omega
  · show n / 4 % 2 = 1 ↔ (n : Int) / 4 % 2 = 1; omega
  · show n / 8 % 2 = 1 ↔ (n : Int) / 8 % 2 = 1; omega
theorem run_zero (x : BitVec 64) (l : List Nat) (hl : ∀ s ∈ l, s < 64) (y : BitVec 64) (hy : ∀ j, j < 64 → occ y j = decide (j ∈ l)) : (x &&& y == 0#64) = l.all fun s => !occ x s := by
  rw [Bool.eq_iff_iff, beq_iff_eq, List.all_eq_true]
  constructor
  · intro h s hs
    have h1 := congrArg (fun z => occ z s) h
    simp only [occ_and, hy s (hl s hs), decide_eq_true hs, Bool.and_true] at h1
    rw [h1]
    simp [occ]
  · intro h
    refine Classical.byContradiction fun hne => ?_
    obtain ⟨j, hj, h1, h2⟩ := (and_ne x y).1 hne
    rw [hy j hj, decide_eq_true_eq] at h2
    have := h j h2
    rw [h1] at this
    cases this
theorem run_two (p : List Int) (hp : Pos p) (a b : Nat) (ha : a < 64) (hb : b < 64) : (~~~(empB p) &&& (sqBit a ||| sqBit b) == 0#64) = (decide (p.getD a 0 = 0) && decide (p.getD b 0 = 0)) := by
  rw [run_zero _ [a, b] (by intro s hs; simp at hs; omega) _ (fun j hj => by rw [occ_or, occ_sq a j ha hj, occ_sq b j hb hj]; simp)]
  simp only [List.all_cons, List.all_nil, Bool.and_true, occ_not _ _ ha, occ_not _ _ hb, Bool.not_not, occ_emp p hp _ ha, occ_emp p hp _ hb]
theorem run_three (p : List Int) (hp : Pos p) (a b c : Nat) (ha : a < 64) (hb : b < 64) (hc : c < 64) : (~~~(empB p) &&& (sqBit a ||| sqBit b ||| sqBit c) == 0#64) = (decide (p.getD a 0 = 0) && (decide (p.getD b 0 = 0) && decide (p.getD c 0 = 0))) := by
  rw [run_zero _ [a, b, c] (by intro s hs; simp at hs; omega) _ (fun j hj => by rw [occ_or, occ_or, occ_sq a j ha hj, occ_sq b j hb hj, occ_sq c j hc hj]; simp [or_assoc, Bool.or_assoc])]
  simp only [List.all_cons, List.all_nil, Bool.and_true, occ_not _ _ ha, occ_not _ _ hb, occ_not _ _ hc, Bool.not_not, occ_emp p hp _ ha, occ_emp p hp _ hb, occ_emp p hp _ hc]
/-- The cells of a castling move that the engine tells. -/
def castK (p : List Int) (tn n : Nat) : List (Array Value) := if engC p tn n = true then [mvK (tgN (tagsOf p tn (castMv tn n) (castT n))) (cE tn : Nat) (cTo tn n : Nat) 0] else []
theorem castK_len (p : List Int) (tn n : Nat) : (castK p tn n).length = (castE p tn n).length := by unfold castK castE; split <;> rfl
theorem castK_size (p : List Int) (tn n : Nat) : ∀ c ∈ castK p tn n, c.size = 11 ∧ c.all (·.oneCell') = true := by
  intro c hc
  unfold castK at hc
  split at hc
  · rw [List.mem_singleton] at hc
    subst hc
    exact ⟨rfl, mvK_one _ _ _ _⟩
  · cases hc
def flat (L : List (Array Value)) : List Value := L.flatMap (·.toList)
/-- The castlings so far. -/
structure KcSt (L : List (Array Value)) (w wr : World) : Prop where
  arr : wr.there w.heap.size 0 22
  has : wr.rangeAt w.heap.size 0 (flat L)
  bel : Below w.heap.size w wr
theorem KcSt.below {L : List (Array Value)} {w wr w2 : World} (h : KcSt L w wr) (hlt : w.heap.size < wr.heap.size) (hb : Below wr.heap.size wr w2) : KcSt L w w2 := by
  have e := hb.block _ hlt
  refine ⟨?_, ?_, h.bel.trans (hb.mono h.bel.size)⟩
  · intro j hj
    have h := h.arr j hj
    unfold World.cell? World.frozen? at h ⊢
    rw [e]
    exact h
  · intro j v hj
    have h := h.has j v hj
    unfold World.cell? at h ⊢
    rw [e]
    exact h
theorem eng_c (p : List Int) (tn : Nat) (hF : Fair p tn) (n : Nat) (hn : n ≤ 1) (hr : hasR (p.getD 65 0) (2 * tn + n) = true) (hrun : cRun p tn n = true) : engC p tn n = (!(engB p tn (cMid tn n) || engB p tn (cTo tn n)) && !checkedB p tn) := by
  have htn := hF.snd.one
  have hp := hF.snd.pos
  have h := cast_ok p tn hF n hn hr hrun
  have hk := cast_king p tn hF h.k
  have hto : cTo tn n < 64 := by unfold cTo; split <;> omega
  have hmid : cMid tn n < 64 := by unfold cMid; split <;> omega
  unfold engC checkedB
  rw [hr, hrun, hk, eng_attacked p hp tn htn _ hto, eng_attacked p hp tn htn _ hmid, Bool.true_and, Bool.true_and]
  have e : decide ((0 : Int) ≤ ((cE tn : Nat) : Int)) = true := decide_eq_true (by omega)
  rw [e, Bool.true_and]
theorem two_sq (W : World) (t : TypeId) (a b : Nat) : ∀ i, i < [a, b].length → (W.alloc (.cells #[.int .i8 (a : Int), .int .i8 (b : Int)] t)).cell? ⟨W.heap.size, i, none⟩ = some (.int .i8 (([a, b].getD i 0 : Nat) : Int)) := by
  intro i hi
  rw [cell_of_row _ _ _ _ _ _ (heap_alloc_new W _)]
  have : i = 0 ∨ i = 1 := by simp at hi; omega
  rcases this with rfl | rfl <;> rfl
/-- Castlings so far, in a world behind the array's making. -/
def KcW (L : List (Array Value)) (w wr : World) : Prop := KcSt L w wr ∧ w.heap.size < wr.heap.size
theorem KcW.below {L : List (Array Value)} {w wr w2 : World} (h : KcW L w wr) (hb : Below wr.heap.size wr w2) : KcW L w w2 := ⟨h.1.below h.2 hb, Nat.lt_of_lt_of_le h.2 hb.size⟩
theorem KcW.bel {L : List (Array Value)} {w wr : World} (h : KcW L w wr) : Below w.heap.size w wr := h.1.bel
theorem drew_more (w : World) (n : Nat) : Below w.drew.heap.size w.drew (w.drewN (1 + n)) := ⟨rfl, rfl, rfl, Nat.le_refl _, fun _ _ => rfl⟩
theorem eng_ok (p : List Int) (tn : Nat) (hF : Fair p tn) (n : Nat) (hn : n ≤ 1) (h : engC p tn n = true) : CastOk p tn n := by
  unfold engC at h
  rw [Bool.and_eq_true, Bool.and_eq_true] at h
  exact cast_ok p tn hF n hn h.1 h.2.1
theorem castK_no {p : List Int} {tn n : Nat} (h : engC p tn n = false) : castK p tn n = [] := by unfold castK; rw [h]; rfl
theorem castK_yes {p : List Int} {tn n : Nat} (h : engC p tn n = true) : castK p tn n = [mvK (tgN (tagsOf p tn (castMv tn n) (castT n))) (cE tn : Nat) (cTo tn n : Nat) 0] := by unfold castK; rw [h]; rfl
theorem castK_count {p : List Int} {tn n : Nat} {b : Bool} (h : engC p tn n = b) : (castK p tn n).length = if b = true then 1 else 0 := by
  unfold castK
  rw [h]
  cases b <;> rfl
theorem flat_len : ∀ L : List (Array Value), (∀ c ∈ L, c.size = 11) → (flat L).length = 11 * L.length
  | [], _ => rfl
  | c :: L, h => by
    have := flat_len L fun x hx => h x (List.mem_cons_of_mem _ hx)
    have hc := h c List.mem_cons_self
    have e : flat (c :: L) = c.toList ++ flat L := rfl
    rw [e, List.length_append, this, List.length_cons]
    simp [hc]
    omega
theorem flat_app (L : List (Array Value)) (c : Array Value) : flat (L ++ [c]) = flat L ++ c.toList := by simp [flat]
theorem there_sub {w : World} {b o m n : Nat} (h : w.there b 0 m) (ho : o + n ≤ m) : w.there b o n := fun j hj => by
  have := h (o + j) (by omega)
  rw [Nat.zero_add] at this
  exact this
theorem range_app {w : World} {b o : Nat} {xs ys : List Value} (h1 : w.rangeAt b o xs) (h2 : w.rangeAt b (o + xs.length) ys) : w.rangeAt b o (xs ++ ys) := fun j v hj => by
  by_cases hlt : j < xs.length
  · rw [List.getElem?_append_left hlt] at hj
    exact h1 j v hj
  · rw [List.getElem?_append_right (by omega)] at hj
    have := h2 (j - xs.length) v hj
    rw [show o + xs.length + (j - xs.length) = o + j by omega] at this
    exact this
theorem KcW.kept {L : List (Array Value)} {w wr w2 : World} {mg : Nat} (h : KcW L w wr) (hK : Kept mg wr w2) (hlt : w.heap.size < mg) : KcW L w w2 := by
  have e := hK.1 w.heap.size h.2 (by omega)
  refine ⟨⟨?_, ?_, hK.2.2 _ _ (by omega) (by have := h.2; omega) h.1.bel⟩, Nat.lt_of_lt_of_le h.2 hK.2.1⟩
  · intro j hj
    have h := h.1.arr j hj
    unfold World.cell? World.frozen? at h ⊢
    rw [e]
    exact h
  · intro j v hj
    have h := h.1.has j v hj
    unfold World.cell? at h ⊢
    rw [e]
    exact h
theorem KcW.put {L : List (Array Value)} {w wr W : World} {o : Nat} {cs : Array Value} (h : KcW L w wr) (hL : (flat L).length = o) (r : W.rangeAt w.heap.size o cs.toList) (z : W.heap.size = wr.heap.size) (bb : ∀ B w0, B ≤ w.heap.size → Below B w0 wr → Below B w0 W)
    (th : ∀ o' n, wr.there w.heap.size o' n → W.there w.heap.size o' n) (ap : ∀ o' cs', o' + cs'.length ≤ o ∨ o + cs.size ≤ o' → wr.rangeAt w.heap.size o' cs' → W.rangeAt w.heap.size o' cs') : KcW (L ++ [cs]) w W := by
  refine ⟨⟨th _ _ h.1.arr, ?_, bb _ _ (Nat.le_refl _) h.1.bel⟩, by rw [z]; exact h.2⟩
  rw [flat_app]
  refine range_app (ap 0 _ (Or.inl (by omega)) h.1.has) ?_
  rw [hL, Nat.zero_add]
  exact r
/-- How many castlings there are. -/
def cI : Bool → Int
  | false => 0
  | true => 1
def cJ (a : Bool) : Bool → Int
  | false => cI a
  | true => cI a + 1
end Go.Proofs.YtnjdgooljnbebaaGreatDoor
namespace Go.Proofs.YtnjdgooljnbebaaGreatDoor
open Go Go.RowKit
set_option maxHeartbeats 4000000
set_option linter.unusedSimpArgs false
set_option linter.unusedVariables false
set_option maxRecDepth 100000

end Go.Proofs.YtnjdgooljnbebaaGreatDoor
