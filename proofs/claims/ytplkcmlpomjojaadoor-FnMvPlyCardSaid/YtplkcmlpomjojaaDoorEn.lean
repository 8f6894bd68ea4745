/- The engine's test of an attack is the rules' own. The plain law: for every position of pieces from 0 to 12. -/
import Derived.Test.YtplkcmlpomjojaaDoorSa
import Derived.Test.YtplkcmlpomjojaaDoorAt
import Derived.Test.YtplkcmlpomjojaaDoorBp
namespace Go.Proofs.YtplkcmlpomjojaaDoor
open Go Go.RowKit
set_option maxHeartbeats 4000000
set_option linter.unusedSimpArgs false
set_option linter.unusedVariables false
set_option maxRecDepth 100000

def runL (way : Int) : Nat → Int → List Int
  | 0, _ => []
  | n + 1, i => i :: runL way n (i + way)
theorem clear_runL (p : List Int) (way : Int) : ∀ n i, clearRun p way n i = true ↔ ∀ x ∈ runL way n i, pcAt p x = 0
  | 0, i => by simp [clearRun, runL]
  | n + 1, i => by
    rw [clear_step, Bool.and_eq_true, decide_eq_true_eq, clear_runL p way n]
    simp [runL]
/-- The squares between j and s, from j on. -/
def backL (j s : Int) : List Int := runL (wayOf j s) (lineN j s) (j + wayOf j s)
def seesB (p : List Int) (j s : Int) : Bool := clearRun p (wayOf j s) (lineN j s) (j + wayOf j s)
def rayOk (up : Bool) (df dr : Int) (s : Nat) : Bool := (pL df dr s).all fun j => backL j s == ((pL df dr s).filter fun q => if up then decide (q < j) else decide (j < q)).reverse
theorem ok_1 : ∀ s < 64, rayOk true 1 1 s = true := by decide +kernel
theorem ok_2 : ∀ s < 64, rayOk false (-1) (-1) s = true := by decide +kernel
theorem ok_3 : ∀ s < 64, rayOk true (-1) 1 s = true := by decide +kernel
theorem ok_4 : ∀ s < 64, rayOk false 1 (-1) s = true := by decide +kernel
theorem ok_5 : ∀ s < 64, rayOk true 0 1 s = true := by decide +kernel
theorem ok_6 : ∀ s < 64, rayOk false 0 (-1) s = true := by decide +kernel
theorem ok_7 : ∀ s < 64, rayOk true 1 0 s = true := by decide +kernel
theorem ok_8 : ∀ s < 64, rayOk false (-1) 0 s = true := by decide +kernel
theorem cut_up (p : List Int) (df dr : Int) (s : Nat) (m : BitVec 64) (hm : pL df dr s = asInts (upL m s)) (ok : rayOk true df dr s = true) (j : Int) : j ∈ cut (pcAt p) (pL df dr s) ↔ j ∈ pL df dr s ∧ seesB p j s = true := by
  have hpw : (pL df dr s).Pairwise (· < ·) := by rw [hm]; exact up_pair m s
  rw [cut_mem (pcAt p) (· < ·) (fun a => by omega) (fun a b => by omega) _ hpw, seesB, clear_runL]
  constructor
  · rintro ⟨h1, h2⟩
    refine ⟨h1, fun x hx => ?_⟩
    have h3 := List.all_eq_true.1 ok j h1
    rw [beq_iff_eq] at h3
    have hx' : x ∈ backL j s := hx
    rw [h3] at hx'
    simp only [if_true, List.mem_reverse, List.mem_filter, decide_eq_true_eq] at hx'
    exact h2 x hx'.1 hx'.2
  · rintro ⟨h1, h2⟩
    refine ⟨h1, fun x hx hr => h2 x ?_⟩
    have h3 := List.all_eq_true.1 ok j h1
    rw [beq_iff_eq] at h3
    show x ∈ backL j s
    rw [h3]
    simp only [if_true, List.mem_reverse, List.mem_filter, decide_eq_true_eq]
    exact ⟨hx, hr⟩
theorem cut_down (p : List Int) (df dr : Int) (s : Nat) (m : BitVec 64) (hm : pL df dr s = asInts (downL m s)) (ok : rayOk false df dr s = true) (j : Int) : j ∈ cut (pcAt p) (pL df dr s) ↔ j ∈ pL df dr s ∧ seesB p j s = true := by
  have hpw : (pL df dr s).Pairwise (· > ·) := by rw [hm]; exact down_pair m s
  rw [cut_mem (pcAt p) (· > ·) (fun a => by omega) (fun a b => by omega) _ hpw, seesB, clear_runL]
  constructor
  · rintro ⟨h1, h2⟩
    refine ⟨h1, fun x hx => ?_⟩
    have h3 := List.all_eq_true.1 ok j h1
    rw [beq_iff_eq] at h3
    have hx' : x ∈ backL j s := hx
    rw [h3] at hx'
    simp only [Bool.false_eq_true, if_false, List.mem_reverse, List.mem_filter, decide_eq_true_eq] at hx'
    exact h2 x hx'.1 hx'.2
  · rintro ⟨h1, h2⟩
    refine ⟨h1, fun x hx hr => h2 x ?_⟩
    have h3 := List.all_eq_true.1 ok j h1
    rw [beq_iff_eq] at h3
    show x ∈ backL j s
    rw [h3]
    simp only [Bool.false_eq_true, if_false, List.mem_reverse, List.mem_filter, decide_eq_true_eq]
    exact ⟨hx, hr⟩
set_option maxRecDepth 1000000 in
theorem slant_all : ∀ s < 64, ∀ j < 64, (decide (j ≠ s) && inSlant (j : Nat) (s : Nat)) = ((pL 1 1 s).contains ((j : Nat) : Int) || (pL (-1) (-1) s).contains ((j : Nat) : Int) || ((pL (-1) 1 s).contains ((j : Nat) : Int) || (pL 1 (-1) s).contains ((j : Nat) : Int))) := by decide +kernel
set_option maxRecDepth 1000000 in
theorem line_all : ∀ s < 64, ∀ j < 64, (decide (j ≠ s) && inLine (j : Nat) (s : Nat)) = ((pL 1 0 s).contains ((j : Nat) : Int) || (pL (-1) 0 s).contains ((j : Nat) : Int) || ((pL 0 1 s).contains ((j : Nat) : Int) || (pL 0 (-1) s).contains ((j : Nat) : Int))) := by decide +kernel

theorem occ_or (x y : BitVec 64) (j : Nat) : occ (x ||| y) j = (occ x j || occ y j) := BitVec.getLsbD_or
theorem occ_and (x y : BitVec 64) (j : Nat) : occ (x &&& y) j = (occ x j && occ y j) := BitVec.getLsbD_and
theorem occ_not (x : BitVec 64) (j : Nat) (hj : j < 64) : occ (~~~x) j = !occ x j := by
  unfold occ
  rw [BitVec.getLsbD_not]
  have : 63 - j < 64 := by omega
  simp [this]
theorem occ_white (p : List Int) (j : Nat) (hj : j < 64) : occ (whiteB p) j = (decide (1 ≤ p.getD j 0) && decide (p.getD j 0 ≤ 6)) := by
  unfold whiteB
  simp only [occ_or, occ_bb p _ j hj]
  rw [Bool.eq_iff_iff]
  simp only [Bool.or_eq_true, Bool.and_eq_true, decide_eq_true_eq]
  omega
theorem occ_black (p : List Int) (j : Nat) (hj : j < 64) : occ (blackB p) j = (decide (7 ≤ p.getD j 0) && decide (p.getD j 0 ≤ 12)) := by
  unfold blackB
  simp only [occ_or, occ_bb p _ j hj]
  rw [Bool.eq_iff_iff]
  simp only [Bool.or_eq_true, Bool.and_eq_true, decide_eq_true_eq]
  omega
theorem occ_tak (p : List Int) (hp : Pos p) (j : Nat) (hj : j < 64) : occ (takB p) j = decide (p.getD j 0 ≠ 0) := by
  unfold takB empB
  rw [occ_not _ j hj, occ_not _ j hj, occ_or, occ_white p j hj, occ_black p j hj, Bool.not_not]
  have := hp.lo j hj
  have := hp.hi j hj
  rw [Bool.eq_iff_iff]
  simp only [Bool.or_eq_true, Bool.and_eq_true, decide_eq_true_eq]
  omega
theorem tak_free (p : List Int) (hp : Pos p) (s : Nat) : ∀ q : Nat, q < 64 → q ≠ s → (pcAt p q = 0 ↔ occ (takB p) q = false) := fun q hq _ => by
  rw [occ_tak p hp q hq, pcAt_nat]
  simp
theorem dia_occ (p : List Int) (hp : Pos p) (s j : Nat) (hs : s < 64) (hj : j < 64) : occ (diaB (takB p) s) j = true ↔ (j ≠ s ∧ inSlant j s = true) ∧ seesB p j s = true := by
  have hB := tak_free p hp s
  have hsl := slant_all s hs j hj
  unfold occ diaB
  rw [BitVec.getLsbD_or, Bool.or_eq_true, linB_cut _ _ s hs _ hB j hj, linB_cut _ _ s hs _ hB j hj, ← dia_up s hs, ← dia_down s hs, ← ant_up s hs, ← ant_down s hs,
    cut_up p 1 1 s _ (dia_up s hs) (ok_1 s hs), cut_down p (-1) (-1) s _ (dia_down s hs) (ok_2 s hs), cut_up p (-1) 1 s _ (ant_up s hs) (ok_3 s hs), cut_down p 1 (-1) s _ (ant_down s hs) (ok_4 s hs)]
  have e : (j ≠ s ∧ inSlant j s = true) ↔ (((j : Int) ∈ pL 1 1 s ∨ (j : Int) ∈ pL (-1) (-1) s) ∨ ((j : Int) ∈ pL (-1) 1 s ∨ (j : Int) ∈ pL 1 (-1) s)) := by
    rw [Bool.eq_iff_iff] at hsl
    simpa using hsl
  rw [e]
  constructor
  · rintro ((h | h) | (h | h)) <;> simp [h.1, h.2]
  · rintro ⟨((h | h) | (h | h)), h2⟩ <;> simp [h, h2]
theorem hv_occ (p : List Int) (hp : Pos p) (s j : Nat) (hs : s < 64) (hj : j < 64) : occ (hvB (takB p) s) j = true ↔ (j ≠ s ∧ inLine j s = true) ∧ seesB p j s = true := by
  have hB := tak_free p hp s
  have hsl := line_all s hs j hj
  unfold occ hvB
  rw [BitVec.getLsbD_or, Bool.or_eq_true, linB_cut _ _ s hs _ hB j hj, linB_cut _ _ s hs _ hB j hj, ← ran_up s hs, ← ran_down s hs, ← fil_up s hs, ← fil_down s hs,
    cut_up p 1 0 s _ (ran_up s hs) (ok_7 s hs), cut_down p (-1) 0 s _ (ran_down s hs) (ok_8 s hs), cut_up p 0 1 s _ (fil_up s hs) (ok_5 s hs), cut_down p 0 (-1) s _ (fil_down s hs) (ok_6 s hs)]
  have e : (j ≠ s ∧ inLine j s = true) ↔ (((j : Int) ∈ pL 1 0 s ∨ (j : Int) ∈ pL (-1) 0 s) ∨ ((j : Int) ∈ pL 0 1 s ∨ (j : Int) ∈ pL 0 (-1) s)) := by
    rw [Bool.eq_iff_iff] at hsl
    simpa using hsl
  rw [e]
  constructor
  · rintro ((h | h) | (h | h)) <;> simp [h.1, h.2]
  · rintro ⟨((h | h) | (h | h)), h2⟩ <;> simp [h, h2]
theorem and_ne (x y : BitVec 64) : x &&& y ≠ 0#64 ↔ ∃ j, j < 64 ∧ occ x j = true ∧ occ y j = true := by
  constructor
  · intro h
    refine Classical.byContradiction fun hn => h (eq_of_squares _ _ fun j hj => ?_)
    constructor
    · intro h1
      rw [BitVec.getLsbD_and, Bool.and_eq_true] at h1
      exact absurd ⟨j, hj, h1⟩ hn
    · intro h1; simp at h1
  · rintro ⟨j, hj, h1, h2⟩ h
    have := congrArg (fun z => occ z j) h
    simp only [occ_and, h1, h2] at this
    simp [occ] at this
theorem occ_kin (p : List Int) (tn t j : Nat) (hj : j < 64) : occ (kinB p tn t) j = decide (p.getD j 0 = (t : Int) + 6 * ((1 - tn : Nat) : Int) + 1) := by
  unfold kinB bbF
  rw [occ_bb p _ j hj]
  congr 2
set_option maxRecDepth 1000000 in
theorem knight_all : ∀ s < 64, ∀ j < 64, occ (tabB bbKnightMovesL s) j = decide (((s : Nat) % 8 - (j : Nat) % 8 : Int) * ((s : Nat) % 8 - (j : Nat) % 8 : Int) + ((s : Nat) / 8 - (j : Nat) / 8 : Int) * ((s : Nat) / 8 - (j : Nat) / 8 : Int) = 5) := by decide +kernel
set_option maxRecDepth 1000000 in
theorem king_all : ∀ s < 64, ∀ j < 64, occ (tabB bbKingMovesL s) j = (decide (j ≠ s) && (decide (((s : Nat) % 8 - (j : Nat) % 8 : Int) * ((s : Nat) % 8 - (j : Nat) % 8 : Int) ≤ 1) && decide (((s : Nat) / 8 - (j : Nat) / 8 : Int) * ((s : Nat) / 8 - (j : Nat) / 8 : Int) ≤ 1))) := by decide +kernel
set_option maxRecDepth 1000000 in
/-- Squares beside one another lie in one line or slant, with nothing between. -/
theorem near_all : ∀ s < 64, ∀ j < 64, (decide (j ≠ s) && (decide (((s : Nat) % 8 - (j : Nat) % 8 : Int) * ((s : Nat) % 8 - (j : Nat) % 8 : Int) ≤ 1) && decide (((s : Nat) / 8 - (j : Nat) / 8 : Int) * ((s : Nat) / 8 - (j : Nat) / 8 : Int) ≤ 1))) = true → ((inLine (j : Nat) (s : Nat) || inSlant (j : Nat) (s : Nat)) && decide (lineN (j : Nat) (s : Nat) = 0)) = true := by decide +kernel
theorem near_sees (p : List Int) (hp : Pos p) (s j : Nat) (hs : s < 64) (hj : j < 64) (h : (decide (j ≠ s) && (decide (((s : Nat) % 8 - (j : Nat) % 8 : Int) * ((s : Nat) % 8 - (j : Nat) % 8 : Int) ≤ 1) && decide (((s : Nat) / 8 - (j : Nat) / 8 : Int) * ((s : Nat) / 8 - (j : Nat) / 8 : Int) ≤ 1))) = true) : occ (diaB (takB p) s ||| hvB (takB p) s) j = true := by
  have hn := near_all s hs j hj h
  rw [Bool.and_eq_true, Bool.or_eq_true, decide_eq_true_eq] at hn
  rw [Bool.and_eq_true, decide_eq_true_eq] at h
  have hsee : seesB p j s = true := by unfold seesB; rw [hn.2]; rfl
  rw [occ_or, Bool.or_eq_true, dia_occ p hp s j hs hj, hv_occ p hp s j hs hj]
  rcases hn.1 with h1 | h1
  · exact Or.inr ⟨⟨h.1, h1⟩, hsee⟩
  · exact Or.inl ⟨⟨h.1, h1⟩, hsee⟩
set_option maxRecDepth 1000000 in
theorem maskH : ∀ j < 64, occ 18374403900871474942#64 j = decide (j % 8 ≠ 7) := by decide +kernel
theorem maskA : ∀ j < 64, occ 9187201950435737471#64 j = decide (j % 8 ≠ 0) := by decide +kernel
theorem mask1 : ∀ j < 64, occ 72057594037927935#64 j = decide (8 ≤ j) := by decide +kernel
theorem mask8 : ∀ j < 64, occ 18446744073709551360#64 j = decide (j < 56) := by decide +kernel
theorem occ_shl (x : BitVec 64) (k j : Nat) (hj : j < 64) : occ (x <<< k) j = (decide (j + k < 64) && occ x (j + k)) := by
  unfold occ
  rw [BitVec.getLsbD_shiftLeft]
  by_cases h : j + k < 64
  · have h1 : 63 - j < 64 := by omega
    have h2 : ¬ 63 - j < k := by omega
    have h3 : 63 - j - k = 63 - (j + k) := by omega
    simp [h, h1, h2, h3]
  · have h2 : 63 - j < k := by omega
    simp [h, h2]
theorem occ_shr (x : BitVec 64) (k j : Nat) (hj : j < 64) : occ (x >>> k) j = (decide (k ≤ j) && occ x (j - k)) := by
  unfold occ
  rw [BitVec.getLsbD_ushiftRight]
  by_cases h : k ≤ j
  · have h3 : k + (63 - j) = 63 - (j - k) := by omega
    simp [h, h3]
  · have h3 : x.getLsbD (k + (63 - j)) = false := BitVec.getLsbD_of_ge _ _ (by omega)
    simp [h, h3]
theorem occ_sq (s j : Nat) (hs : s < 64) (hj : j < 64) : occ (sqBit s) j = decide (j = s) := by
  unfold occ sqBit
  rw [one_bit _ _ (by omega)]
  rw [Bool.eq_iff_iff, decide_eq_true_eq, decide_eq_true_eq]
  omega
theorem paw_occ (p : List Int) (tn s : Nat) (htn : tn ≤ 1) (hs : s < 64) : pawB p tn s ≠ 0#64 ↔ ∃ j, j < 64 ∧ p.getD j 0 = 6 + 6 * ((1 - tn : Nat) : Int) ∧ ((s : Int) % 8 - (j : Int) % 8) * ((s : Int) % 8 - (j : Int) % 8) = 1 ∧ (s : Int) / 8 - (j : Int) / 8 = upOf (1 - tn) := by
  have key : ∀ a b c : Int, a = 1 ∨ a = -1 → a * a = 1 := by rintro a _ _ (rfl | rfl) <;> rfl
  have yek : ∀ a : Int, -7 ≤ a → a ≤ 7 → a * a = 1 → a = 1 ∨ a = -1 := by
    intro a h0 h1 h
    have : a = -7 ∨ a = -6 ∨ a = -5 ∨ a = -4 ∨ a = -3 ∨ a = -2 ∨ a = -1 ∨ a = 0 ∨ a = 1 ∨ a = 2 ∨ a = 3 ∨ a = 4 ∨ a = 5 ∨ a = 6 ∨ a = 7 := by omega
    rcases this with rfl | rfl | rfl | rfl | rfl | rfl | rfl | rfl | rfl | rfl | rfl | rfl | rfl | rfl | rfl <;> simp_all
  obtain rfl | rfl : tn = 0 ∨ tn = 1 := by omega
  · unfold pawB
    rw [if_pos rfl, and_ne]
    constructor
    · rintro ⟨j, hj, h1, h2⟩
      rw [occ_sq s j hs hj, decide_eq_true_eq] at h2
      subst h2
      rw [occ_or, occ_shl _ 7 j hj, occ_shl _ 9 j hj, Bool.or_eq_true, Bool.and_eq_true, Bool.and_eq_true, decide_eq_true_eq, decide_eq_true_eq] at h1
      rcases h1 with ⟨a, b⟩ | ⟨a, b⟩
      · rw [occ_and, occ_and, Bool.and_eq_true, Bool.and_eq_true, maskH _ a, mask1 _ a, decide_eq_true_eq, decide_eq_true_eq] at b
        unfold bbF at b
        rw [occ_bb p _ _ a, decide_eq_true_eq] at b
        exact ⟨j + 7, a, by have := b.1.1; simpa using this, key _ 0 0 (by omega), by unfold upOf; omega⟩
      · rw [occ_and, occ_and, Bool.and_eq_true, Bool.and_eq_true, maskA _ a, mask1 _ a, decide_eq_true_eq, decide_eq_true_eq] at b
        unfold bbF at b
        rw [occ_bb p _ _ a, decide_eq_true_eq] at b
        exact ⟨j + 9, a, by have := b.1.1; simpa using this, key _ 0 0 (by omega), by unfold upOf; omega⟩
    · rintro ⟨j, hj, h1, h2, h3⟩
      refine ⟨s, hs, ?_, by rw [occ_sq s s hs hs]; simp⟩
      unfold upOf at h3
      rw [occ_or, occ_shl _ 7 s hs, occ_shl _ 9 s hs, Bool.or_eq_true, Bool.and_eq_true, Bool.and_eq_true, decide_eq_true_eq, decide_eq_true_eq]
      rcases yek _ (by omega) (by omega) h2 with h | h
      · have e : s + 7 = j := by omega
        left
        rw [e]
        refine ⟨hj, ?_⟩
        rw [occ_and, occ_and, Bool.and_eq_true, Bool.and_eq_true, maskH _ hj, mask1 _ hj, decide_eq_true_eq, decide_eq_true_eq]
        unfold bbF
        rw [occ_bb p _ _ hj, decide_eq_true_eq]
        exact ⟨⟨by simpa using h1, by omega⟩, by omega⟩
      · have e : s + 9 = j := by omega
        right
        rw [e]
        refine ⟨hj, ?_⟩
        rw [occ_and, occ_and, Bool.and_eq_true, Bool.and_eq_true, maskA _ hj, mask1 _ hj, decide_eq_true_eq, decide_eq_true_eq]
        unfold bbF
        rw [occ_bb p _ _ hj, decide_eq_true_eq]
        exact ⟨⟨by simpa using h1, by omega⟩, by omega⟩
  · unfold pawB
    rw [if_neg (by omega), and_ne]
    constructor
    · rintro ⟨j, hj, h1, h2⟩
      rw [occ_sq s j hs hj, decide_eq_true_eq] at h2
      subst h2
      rw [occ_or, occ_shr _ 9 j hj, occ_shr _ 7 j hj, Bool.or_eq_true, Bool.and_eq_true, Bool.and_eq_true, decide_eq_true_eq, decide_eq_true_eq] at h1
      rcases h1 with ⟨a, b⟩ | ⟨a, b⟩
      · have hj9 : j - 9 < 64 := by omega
        rw [occ_and, occ_and, Bool.and_eq_true, Bool.and_eq_true, maskH _ hj9, mask8 _ hj9, decide_eq_true_eq, decide_eq_true_eq] at b
        unfold bbF at b
        rw [occ_bb p _ _ hj9, decide_eq_true_eq] at b
        exact ⟨j - 9, hj9, by have := b.1.1; simpa using this, key _ 0 0 (by omega), by unfold upOf; omega⟩
      · have hj7 : j - 7 < 64 := by omega
        rw [occ_and, occ_and, Bool.and_eq_true, Bool.and_eq_true, maskA _ hj7, mask8 _ hj7, decide_eq_true_eq, decide_eq_true_eq] at b
        unfold bbF at b
        rw [occ_bb p _ _ hj7, decide_eq_true_eq] at b
        exact ⟨j - 7, hj7, by have := b.1.1; simpa using this, key _ 0 0 (by omega), by unfold upOf; omega⟩
    · rintro ⟨j, hj, h1, h2, h3⟩
      refine ⟨s, hs, ?_, by rw [occ_sq s s hs hs]; simp⟩
      unfold upOf at h3
      rw [occ_or, occ_shr _ 9 s hs, occ_shr _ 7 s hs, Bool.or_eq_true, Bool.and_eq_true, Bool.and_eq_true, decide_eq_true_eq, decide_eq_true_eq]
      rcases yek _ (by omega) (by omega) h2 with h | h
      · have e : s - 9 = j := by omega
        left
        rw [e]
        refine ⟨by omega, ?_⟩
        rw [occ_and, occ_and, Bool.and_eq_true, Bool.and_eq_true, maskH _ hj, mask8 _ hj, decide_eq_true_eq, decide_eq_true_eq]
        unfold bbF
        rw [occ_bb p _ _ hj, decide_eq_true_eq]
        exact ⟨⟨by simpa using h1, by omega⟩, by omega⟩
      · have e : s - 7 = j := by omega
        right
        rw [e]
        refine ⟨by omega, ?_⟩
        rw [occ_and, occ_and, Bool.and_eq_true, Bool.and_eq_true, maskA _ hj, mask8 _ hj, decide_eq_true_eq, decide_eq_true_eq]
        unfold bbF
        rw [occ_bb p _ _ hj, decide_eq_true_eq]
        exact ⟨⟨by simpa using h1, by omega⟩, by omega⟩
/-- What an attacker of a kind is. -/
theorem hits_kind (p : List Int) (s j t c : Nat) (ht : t < 6) (hc : c ≤ 1) (hx : pcAt p j = (t : Int) + 6 * c + 1) : hitsB p j s =
    (decide (j ≠ s) && (if t = 0 then decide (((s : Int) % 8 - (j : Int) % 8) * ((s : Int) % 8 - (j : Int) % 8) ≤ 1) && decide (((s : Int) / 8 - (j : Int) / 8) * ((s : Int) / 8 - (j : Int) / 8) ≤ 1)
      else if t = 1 then (inLine j s || inSlant j s) && seesB p j s
      else if t = 2 then inLine j s && seesB p j s
      else if t = 3 then inSlant j s && seesB p j s
      else if t = 4 then decide (((s : Int) % 8 - (j : Int) % 8) * ((s : Int) % 8 - (j : Int) % 8) + ((s : Int) / 8 - (j : Int) / 8) * ((s : Int) / 8 - (j : Int) / 8) = 5)
      else decide (((s : Int) % 8 - (j : Int) % 8) * ((s : Int) % 8 - (j : Int) % 8) = 1) && decide ((s : Int) / 8 - (j : Int) / 8 = upOf c))) := by
  have hk : kindOf ((t : Int) + 6 * c + 1) = (t : Int) + 1 := by unfold kindOf; split <;> omega
  have hsd : sideOf ((t : Int) + 6 * c + 1) = (c : Int) := by unfold sideOf; split <;> omega
  rw [hitsB, hx, hk, hsd]
  by_cases hjs : j = s
  · subst hjs; rw [if_pos (Or.inl rfl)]; simp
  · rw [if_neg (by omega)]
    have hd : decide (j ≠ s) = true := decide_eq_true hjs
    rw [hd, Bool.true_and]
    show _ = _
    have hsee : clearRun p (wayOf j s) (lineN j s) (j + wayOf j s) = seesB p j s := rfl
    rw [hsee]
    rcases (show t = 0 ∨ t = 1 ∨ t = 2 ∨ t = 3 ∨ t = 4 ∨ t = 5 by omega) with rfl | rfl | rfl | rfl | rfl | rfl
    · simp
    · cases inLine j s <;> cases inSlant j s <;> simp
    · cases inLine j s <;> cases inSlant j s <;> simp
    · cases inLine j s <;> cases inSlant j s <;> simp
    · simp
    · simp
theorem eng_attacked (p : List Int) (hp : Pos p) (tn : Nat) (htn : tn ≤ 1) (s : Nat) (hs : s < 64) : engB p tn s = attackedB p s (1 - (tn : Int)) := by
  have hc1 : ((1 - tn : Nat) : Int) = 1 - (tn : Int) := by omega
  have hatt : attackedB p s (1 - (tn : Int)) = true ↔ ∃ j t : Nat, j < 64 ∧ t < 6 ∧ p.getD j 0 = (t : Int) + 6 * ((1 - tn : Nat) : Int) + 1 ∧ hitsB p j s = true := by
    unfold attackedB
    rw [List.any_eq_true]
    constructor
    · rintro ⟨j, hj, h⟩
      rw [List.mem_range] at hj
      unfold atkOne at h
      rw [Bool.and_eq_true, Bool.and_eq_true, decide_eq_true_eq, decide_eq_true_eq, pcAt_nat] at h
      have h0 := hp.lo j hj
      have h1 := hp.hi j hj
      have h2 := h.2.1
      have h3 := h.1
      unfold sideOf at h2
      refine ⟨j, (p.getD j 0 - 6 * ((1 - tn : Nat) : Int) - 1).toNat, hj, ?_, ?_, h.2.2⟩
      · split at h2 <;> omega
      · split at h2 <;> omega
    · rintro ⟨j, t, hj, ht, hx, h⟩
      refine ⟨j, List.mem_range.2 hj, ?_⟩
      unfold atkOne
      rw [pcAt_nat, hx, h]
      have : sideOf ((t : Int) + 6 * ((1 - tn : Nat) : Int) + 1) = 1 - (tn : Int) := by unfold sideOf; split <;> omega
      rw [this]
      simp
      omega
  have hot : ∀ j t : Nat, j < 64 → t < 6 → p.getD j 0 = (t : Int) + 6 * ((1 - tn : Nat) : Int) + 1 → (occ (diaB (takB p) s ||| hvB (takB p) s) j = true ∨ occ (tabB bbKnightMovesL s) j = true) → hotB p tn s ≠ 0#64 := by
    intro j t hj ht hx h
    have ho : occ (othB p tn) j = true := by
      unfold othB
      split
      · rw [occ_white p j hj, Bool.and_eq_true, decide_eq_true_eq, decide_eq_true_eq]; omega
      · rw [occ_black p j hj, Bool.and_eq_true, decide_eq_true_eq, decide_eq_true_eq]; omega
    intro h0
    have := congrArg (fun z => occ z j) h0
    unfold hotB at this
    simp only [occ_or, occ_and, ho, Bool.and_true] at this
    rw [occ_or] at h
    have hz : occ 0#64 j = false := by simp [occ]
    rw [hz] at this
    rcases h with h | h
    · rw [h] at this; simp at this
    · rw [h] at this; simp at this
  have hk : ∀ (m : BitVec 64) (t : Nat), m &&& kinB p tn t ≠ 0#64 ↔ ∃ j, j < 64 ∧ occ m j = true ∧ p.getD j 0 = (t : Int) + 6 * ((1 - tn : Nat) : Int) + 1 := by
    intro m t
    rw [and_ne]
    constructor
    · rintro ⟨j, hj, h1, h2⟩
      rw [occ_kin p tn t j hj, decide_eq_true_eq] at h2
      exact ⟨j, hj, h1, h2⟩
    · rintro ⟨j, hj, h1, h2⟩
      exact ⟨j, hj, h1, by rw [occ_kin p tn t j hj, decide_eq_true_eq]; exact h2⟩
  have hup : upOf ((1 - tn : Nat) : Int) = upOf (1 - (tn : Int)) := by rw [hc1]
  have heng : engB p tn s = true ↔ hotB p tn s ≠ 0#64 ∧ ((diaB (takB p) s ||| hvB (takB p) s) &&& kinB p tn 1 ≠ 0#64 ∨ hvB (takB p) s &&& kinB p tn 2 ≠ 0#64 ∨ diaB (takB p) s &&& kinB p tn 3 ≠ 0#64 ∨ tabB bbKnightMovesL s &&& kinB p tn 4 ≠ 0#64 ∨ pawB p tn s ≠ 0#64 ∨ tabB bbKingMovesL s &&& kinB p tn 0 ≠ 0#64) := by
    unfold engB
    by_cases h0 : hotB p tn s = 0#64
    · simp [h0]
    rw [if_neg h0]
    by_cases h1 : (diaB (takB p) s ||| hvB (takB p) s) &&& kinB p tn 1 ≠ 0#64
    · simp [h0, h1]
    rw [if_neg h1]
    by_cases h2 : hvB (takB p) s &&& kinB p tn 2 ≠ 0#64
    · simp [h0, h2]
    rw [if_neg h2]
    by_cases h3 : diaB (takB p) s &&& kinB p tn 3 ≠ 0#64
    · simp [h0, h3]
    rw [if_neg h3]
    by_cases h4 : tabB bbKnightMovesL s &&& kinB p tn 4 ≠ 0#64
    · simp [h0, h4]
    rw [if_neg h4]
    by_cases h5 : pawB p tn s ≠ 0#64
    · simp [h0, h5]
    rw [if_neg h5, decide_eq_true_eq]
    constructor
    · exact fun h => ⟨h0, Or.inr (Or.inr (Or.inr (Or.inr (Or.inr h))))⟩
    · rintro ⟨_, h | h | h | h | h | h⟩
      · exact absurd h h1
      · exact absurd h h2
      · exact absurd h h3
      · exact absurd h h4
      · exact absurd h h5
      · exact h
  rw [Bool.eq_iff_iff, hatt, heng, hk, hk, hk, hk, hk, paw_occ p tn s htn hs]
  constructor
  · rintro ⟨_, ⟨j, hj, h, hx⟩ | ⟨j, hj, h, hx⟩ | ⟨j, hj, h, hx⟩ | ⟨j, hj, h, hx⟩ | ⟨j, hj, hx, h, h2⟩ | ⟨j, hj, h, hx⟩⟩
    · refine ⟨j, 1, hj, by omega, hx, ?_⟩
      rw [hits_kind p s j 1 (1 - tn) (by omega) (by omega) (by rw [pcAt_nat]; exact hx)]
      rw [occ_or, Bool.or_eq_true, dia_occ p hp s j hs hj, hv_occ p hp s j hs hj] at h
      rcases h with h | h <;> simp [h.1.1, h.1.2, h.2]
    · refine ⟨j, 2, hj, by omega, hx, ?_⟩
      rw [hits_kind p s j 2 (1 - tn) (by omega) (by omega) (by rw [pcAt_nat]; exact hx)]
      rw [hv_occ p hp s j hs hj] at h
      simp [h.1.1, h.1.2, h.2]
    · refine ⟨j, 3, hj, by omega, hx, ?_⟩
      rw [hits_kind p s j 3 (1 - tn) (by omega) (by omega) (by rw [pcAt_nat]; exact hx)]
      rw [dia_occ p hp s j hs hj] at h
      simp [h.1.1, h.1.2, h.2]
    · refine ⟨j, 4, hj, by omega, hx, ?_⟩
      rw [hits_kind p s j 4 (1 - tn) (by omega) (by omega) (by rw [pcAt_nat]; exact hx)]
      rw [knight_all s hs j hj, decide_eq_true_eq] at h
      have hne : j ≠ s := by rintro rfl; simp at h
      simp [h, hne]
    · refine ⟨j, 5, hj, by omega, by rw [hx]; omega, ?_⟩
      rw [hits_kind p s j 5 (1 - tn) (by omega) (by omega) (by rw [pcAt_nat, hx]; omega)]
      have hne : j ≠ s := by rintro rfl; simp at h
      rw [← hup] at h2
      simp [h, h2, hne]
    · refine ⟨j, 0, hj, by omega, hx, ?_⟩
      rw [hits_kind p s j 0 (1 - tn) (by omega) (by omega) (by rw [pcAt_nat]; exact hx)]
      rw [king_all s hs j hj] at h
      simpa using h
  · rintro ⟨j, t, hj, ht, hx, h⟩
    rw [hits_kind p s j t (1 - tn) ht (by omega) (by rw [pcAt_nat]; exact hx), Bool.and_eq_true, decide_eq_true_eq] at h
    obtain ⟨hne, h⟩ := h
    have hd := dia_occ p hp s j hs hj
    have hv := hv_occ p hp s j hs hj
    rcases (show t = 0 ∨ t = 1 ∨ t = 2 ∨ t = 3 ∨ t = 4 ∨ t = 5 by omega) with rfl | rfl | rfl | rfl | rfl | rfl
    · have h' : (decide (j ≠ s) && (decide (((s : Nat) % 8 - (j : Nat) % 8 : Int) * ((s : Nat) % 8 - (j : Nat) % 8 : Int) ≤ 1) && decide (((s : Nat) / 8 - (j : Nat) / 8 : Int) * ((s : Nat) / 8 - (j : Nat) / 8 : Int) ≤ 1))) = true := by
        rw [decide_eq_true hne, Bool.true_and]; simpa using h
      refine ⟨hot j 0 hj (by omega) hx (Or.inl (near_sees p hp s j hs hj h')), Or.inr (Or.inr (Or.inr (Or.inr (Or.inr ⟨j, hj, ?_, hx⟩))))⟩
      rw [king_all s hs j hj]; exact h'
    · have h1 : occ (diaB (takB p) s ||| hvB (takB p) s) j = true := by
        simp only [Nat.one_ne_zero, if_false, if_true, Bool.and_eq_true, Bool.or_eq_true] at h
        rw [occ_or, Bool.or_eq_true, hd, hv]
        rcases h.1 with q | q
        · exact Or.inr ⟨⟨hne, q⟩, h.2⟩
        · exact Or.inl ⟨⟨hne, q⟩, h.2⟩
      exact ⟨hot j 1 hj (by omega) hx (Or.inl h1), Or.inl ⟨j, hj, h1, hx⟩⟩
    · have h1 : occ (hvB (takB p) s) j = true := by
        have h : inLine j s = true ∧ seesB p j s = true := by simpa using h
        exact hv.2 ⟨⟨hne, h.1⟩, h.2⟩
      exact ⟨hot j 2 hj (by omega) hx (Or.inl (by rw [occ_or, h1, Bool.or_true])), Or.inr (Or.inl ⟨j, hj, h1, hx⟩)⟩
    · have h1 : occ (diaB (takB p) s) j = true := by
        have h : inSlant j s = true ∧ seesB p j s = true := by simpa using h
        exact hd.2 ⟨⟨hne, h.1⟩, h.2⟩
      exact ⟨hot j 3 hj (by omega) hx (Or.inl (by rw [occ_or, h1, Bool.true_or])), Or.inr (Or.inr (Or.inl ⟨j, hj, h1, hx⟩))⟩
    · have h1 : occ (tabB bbKnightMovesL s) j = true := by
        rw [knight_all s hs j hj]
        simpa using h
      exact ⟨hot j 4 hj (by omega) hx (Or.inr h1), Or.inr (Or.inr (Or.inr (Or.inl ⟨j, hj, h1, hx⟩)))⟩
    · have h1 : ((s : Int) % 8 - (j : Int) % 8) * ((s : Int) % 8 - (j : Int) % 8) = 1 ∧ (s : Int) / 8 - (j : Int) / 8 = upOf ((1 - tn : Nat) : Int) := by simpa using h
      have h' : (decide (j ≠ s) && (decide (((s : Nat) % 8 - (j : Nat) % 8 : Int) * ((s : Nat) % 8 - (j : Nat) % 8 : Int) ≤ 1) && decide (((s : Nat) / 8 - (j : Nat) / 8 : Int) * ((s : Nat) / 8 - (j : Nat) / 8 : Int) ≤ 1))) = true := by
        rw [decide_eq_true hne, Bool.true_and, Bool.and_eq_true, decide_eq_true_eq, decide_eq_true_eq, h1.1, h1.2]
        refine ⟨by omega, ?_⟩
        unfold upOf
        obtain rfl | rfl : tn = 0 ∨ tn = 1 := by omega
        · decide
        · decide
      refine ⟨hot j 5 hj (by omega) hx (Or.inl (near_sees p hp s j hs hj h')), Or.inr (Or.inr (Or.inr (Or.inr (Or.inl ⟨j, hj, ?_, h1.1, ?_⟩))))⟩
      · rw [hx]; omega
      · rw [h1.2, hup]
/-- The board alone serves as well. -/
theorem take_getD (p : List Int) (i : Nat) (h : i < 64) : (p.take 64).getD i 0 = p.getD i 0 := by
  simp [List.getD, h]
theorem bb_take (p : List Int) (k : Int) : bb (p.take 64) k = bb p k := by
  apply eq_of_squares
  intro j hj
  have h1 := occ_bb (p.take 64) k j hj
  have h2 := occ_bb p k j hj
  unfold occ at h1 h2
  rw [h1, h2, take_getD p j hj]
theorem engB_take (p : List Int) (tn s : Nat) : engB (p.take 64) tn s = engB p tn s := by
  unfold engB hotB pawB kinB othB takB empB whiteB blackB bbF
  simp only [bb_take]
theorem lastK_take (p : List Int) (k : Int) : ∀ n, n ≤ 64 → lastK (p.take 64) k n = lastK p k n
  | 0, _ => rfl
  | n + 1, h => by
    rw [lastK, lastK, take_getD p n (by omega), lastK_take p k n (by omega)]
theorem brd_take (p : List Int) : brd (p.take 64) = brd p := by
  unfold brd whiteB blackB
  have e : bbF (p.take 64) = bbF p := by funext i; exact bb_take p _
  rw [e, lastK_take p 1 64 (by omega), lastK_take p 7 64 (by omega)]
  simp only [bb_take]
theorem Pos.board {p : List Int} (hp : Pos p) : Brd (p.take 64) where
  len := by simp [hp.len]
  lo := fun s => by
    by_cases h : s < 64
    · rw [take_getD p s h]; exact hp.lo s h
    · have e : (p.take 64).getD s 0 = 0 := by
        rw [List.getD_eq_getElem?_getD, List.getElem?_eq_none (by simp; omega)]; rfl
      rw [e]; omega
  hi := fun s => by
    by_cases h : s < 64
    · rw [take_getD p s h]; exact hp.hi s h
    · have e : (p.take 64).getD s 0 = 0 := by
        rw [List.getD_eq_getElem?_getD, List.getElem?_eq_none (by simp; omega)]; rfl
      rw [e]; omega
end Go.Proofs.YtplkcmlpomjojaaDoor
