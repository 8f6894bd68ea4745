/- Along one line: what is seen along a line's two ways. The plain law, for all numbers. -/
import Derived.Test.YtplkcmlpomjojaaDoorRe
import Derived.Test.YtplkcmlpomjojaaDoorLn
import Derived.Test.YtplkcmlpomjojaaDoorTb
namespace Go.Proofs.YtplkcmlpomjojaaDoor
open Go Go.RowKit
set_option maxHeartbeats 4000000
set_option linter.unusedSimpArgs false
set_option linter.unusedVariables false
set_option maxRecDepth 100000

/-- Subtracting one bit flips the bits from it on up to the first one that is set. -/
def clearFrom (x : BitVec 64) (k b : Nat) : Bool := (List.range 64).all fun c => !(decide (k ≤ c) && decide (c < b) && x.getLsbD c)
theorem clearFrom_iff (x : BitVec 64) (k b : Nat) : clearFrom x k b = true ↔ ∀ c, k ≤ c → c < b → x.getLsbD c = false := by
  unfold clearFrom
  rw [List.all_eq_true]
  constructor
  · intro h c h1 h2
    by_cases hc : c < 64
    · have := h c (by simpa using hc)
      simpa [h1, h2] using this
    · exact BitVec.getLsbD_of_ge _ _ (by omega)
  · intro h c _
    by_cases h1 : k ≤ c
    · by_cases h2 : c < b
      · simp [h c h1 h2]
      · simp [h2]
    · simp [h1]
theorem one_bit (k b : Nat) (hb : b < 64) : (1#64 <<< k).getLsbD b = decide (b = k) := by
  rw [BitVec.getLsbD_shiftLeft]
  by_cases h : b = k
  · subst h; simp [hb]
  · by_cases h2 : b < k
    · simp [h, h2]
    · have : (1#64).getLsbD (b - k) = false := by rw [BitVec.getLsbD_one]; simp; omega
      simp [h, this]
theorem sub_bit (x : BitVec 64) : ∀ n k : Nat, k + n = 64 → ∀ b, b < 64 → (x - (1#64 <<< k)).getLsbD b = (x.getLsbD b ^^ (decide (k ≤ b) && clearFrom x k b))
  | 0, k, h, b, hb => by
    have : k = 64 := by omega
    subst this
    have e : (1#64 <<< 64) = 0#64 := by decide
    have h2 : ¬ 64 ≤ b := by omega
    rw [e]; simp [h2]
  | n + 1, k, h, b, hb => by
    have ih := sub_bit x n (k + 1) (by omega)
    cases hk : x.getLsbD k with
    | true =>
      have e : x - (1#64 <<< k) = x &&& ~~~(1#64 <<< k) := by
        have h1 : (x &&& ~~~(1#64 <<< k)) + (1#64 <<< k) = x := by
          rw [BitVec.add_eq_or_of_and_eq_zero]
          · apply BitVec.eq_of_getLsbD_eq
            intro i hi
            rw [BitVec.getLsbD_or, BitVec.getLsbD_and, BitVec.getLsbD_not, one_bit k i hi]
            by_cases hik : i = k
            · subst hik; simp [hk]
            · simp [hik, hi]
          · apply BitVec.eq_of_getLsbD_eq
            intro i hi
            rw [BitVec.getLsbD_and, BitVec.getLsbD_and, BitVec.getLsbD_not, one_bit k i hi]
            simp
        rw [← h1]
        rw [BitVec.add_sub_cancel]
        rw [h1]
      rw [e, BitVec.getLsbD_and, BitVec.getLsbD_not, one_bit k b hb]
      by_cases hbk : b = k
      · subst hbk
        have : clearFrom x b b = true := (clearFrom_iff _ _ _).2 (fun c h1 h2 => by omega)
        simp [hk, this, hb]
      · by_cases hlt : b < k
        · have h2 : ¬ k ≤ b := by omega
          simp [hbk, h2, hb]
        · have : clearFrom x k b = false := by
            cases hc : clearFrom x k b with
            | false => rfl
            | true => have := (clearFrom_iff _ _ _).1 hc k (Nat.le_refl _) (by omega); rw [hk] at this; cases this
          simp [hbk, this, hb]
    | false =>
      have e1 : x - (1#64 <<< k) = (x - (1#64 <<< (k + 1))) + (1#64 <<< k) := by
        have h2 : (1#64 <<< (k + 1)) = (1#64 <<< k) + (1#64 <<< k) := by
          apply BitVec.eq_of_toNat_eq
          rw [BitVec.toNat_add, BitVec.toNat_shiftLeft, BitVec.toNat_shiftLeft]
          simp only [Nat.shiftLeft_eq, BitVec.toNat_ofNat]
          omega
        rw [h2]
        generalize (1#64 <<< k) = a
        apply BitVec.eq_of_toNat_eq
        rw [BitVec.toNat_add, BitVec.toNat_sub, BitVec.toNat_sub, BitVec.toNat_add]
        have := x.isLt
        have := a.isLt
        omega
      have hy : (x - (1#64 <<< (k + 1))).getLsbD k = false := by
        rw [ih k (by omega), hk]
        have : ¬ k + 1 ≤ k := by omega
        simp [this]
      have e2 : (x - (1#64 <<< (k + 1))) + (1#64 <<< k) = (x - (1#64 <<< (k + 1))) ||| (1#64 <<< k) := by
        apply BitVec.add_eq_or_of_and_eq_zero
        apply BitVec.eq_of_getLsbD_eq
        intro i hi
        rw [BitVec.getLsbD_and, one_bit k i hi]
        by_cases hik : i = k
        · subst hik; simp [hy]
        · simp [hik]
      rw [e1, e2, BitVec.getLsbD_or, one_bit k b hb]
      by_cases hbk : b = k
      · subst hbk
        have : clearFrom x b b = true := (clearFrom_iff _ _ _).2 (fun c h1 h2 => by omega)
        simp [hk, this]
      · rw [ih b hb]
        by_cases hlt : b < k
        · have h2 : ¬ k ≤ b := by omega
          have h3 : ¬ k + 1 ≤ b := by omega
          simp [hbk, h2, h3]
        · have h2 : k ≤ b := by omega
          have h3 : k + 1 ≤ b := by omega
          have : clearFrom x k b = clearFrom x (k + 1) b := by
            rw [Bool.eq_iff_iff, clearFrom_iff, clearFrom_iff]
            constructor
            · intro h c h1 h2; exact h c (by omega) h2
            · intro h c h1 h2
              by_cases hck : c = k
              · subst hck; exact hk
              · exact h c (by omega) h2
          simp [hbk, h2, h3, this]

theorem two_shift (k : Nat) (h : k ≤ 63) : 2#64 * (1#64 <<< k) = 1#64 <<< (k + 1) := by
  apply BitVec.eq_of_toNat_eq
  rw [BitVec.toNat_mul, BitVec.toNat_shiftLeft, BitVec.toNat_shiftLeft]
  simp only [Nat.shiftLeft_eq, BitVec.toNat_ofNat]
  omega
theorem brev_sq (s : Nat) (h : s < 64) : brev (sqBit s) = 1#64 <<< s := by
  apply BitVec.eq_of_getLsbD_eq
  intro i hi
  rw [brev_get _ i hi, one_bit s i hi]
  unfold sqBit
  rw [one_bit _ _ (by omega)]
  by_cases h1 : i = s
  · subst h1; simp
  · have : ¬ 63 - i = 63 - s := by omega
    simp [h1, this]
/-- A bit of what is seen along a line: b is its place, a that of the square. -/
theorem linB_bit (t m : BitVec 64) (s b : Nat) (hs : s < 64) (hb : b < 64) :
    (linB t (sqBit s) m).getLsbD b = (((decide (64 - s ≤ b) && clearFrom (t &&& m) (64 - s) b) ^^ (decide (s + 1 ≤ 63 - b) && clearFrom (brev (t &&& m)) (s + 1) (63 - b))) && m.getLsbD b) := by
  unfold linB
  rw [BitVec.getLsbD_and, BitVec.getLsbD_xor, brev_get _ _ hb, brev_sq s hs, two_shift s (by omega)]
  unfold sqBit
  rw [two_shift (63 - s) (by omega), show 63 - s + 1 = 64 - s by omega, sub_bit _ s (64 - s) (by omega) b hb, sub_bit _ (63 - s) (s + 1) (by omega) (63 - b) (by omega), brev_get _ (63 - b) (by omega), show 63 - (63 - b) = b by omega]
  congr 1
  generalize (decide (64 - s ≤ b) && clearFrom (t &&& m) (64 - s) b) = p
  generalize (decide (s + 1 ≤ 63 - b) && clearFrom (brev (t &&& m)) (s + 1) (63 - b)) = q
  cases (t &&& m).getLsbD b <;> cases p <;> cases q <;> rfl
/-- Nothing beside the line. -/
theorem linB_line (t p m : BitVec 64) : linB t p m &&& ~~~m = 0#64 := by
  unfold linB
  apply BitVec.eq_of_getLsbD_eq
  intro i hi
  rw [BitVec.getLsbD_and, BitVec.getLsbD_and, BitVec.getLsbD_not]
  cases m.getLsbD i <;> simp [hi]

/-- The squares of a list up to the first that is taken. -/
def cut (B : Int → Int) : List Int → List Int
  | [] => []
  | q :: l => if B q ≠ 0 then [q] else q :: cut B l
theorem cut_mem (B : Int → Int) (R : Int → Int → Prop) (irr : ∀ a, ¬ R a a) (asy : ∀ a b, R a b → ¬ R b a) : ∀ l : List Int, l.Pairwise R → ∀ j, (j ∈ cut B l ↔ j ∈ l ∧ ∀ q ∈ l, R q j → B q = 0)
  | [], _, j => by simp [cut]
  | q :: l, h, j => by
    obtain ⟨h1, h2⟩ := List.pairwise_cons.1 h
    have ih := cut_mem B R irr asy l h2 j
    unfold cut
    by_cases hq : B q = 0
    · rw [if_neg (by simp [hq]), List.mem_cons, List.mem_cons, ih]
      constructor
      · rintro (rfl | ⟨ha, hb⟩)
        · exact ⟨Or.inl rfl, fun x hx hr => by
            rcases List.mem_cons.1 hx with rfl | hx
            · exact hq
            · exact absurd hr (asy _ _ (h1 x hx))⟩
        · exact ⟨Or.inr ha, fun x hx hr => by
            rcases List.mem_cons.1 hx with rfl | hx
            · exact hq
            · exact hb x hx hr⟩
      · rintro ⟨rfl | ha, hb⟩
        · exact Or.inl rfl
        · exact Or.inr ⟨ha, fun x hx hr => hb x (List.mem_cons_of_mem _ hx) hr⟩
    · rw [if_pos hq, List.mem_singleton, List.mem_cons]
      constructor
      · rintro rfl
        exact ⟨Or.inl rfl, fun x hx hr => by
          rcases List.mem_cons.1 hx with rfl | hx
          · exact absurd hr (irr _)
          · exact absurd hr (asy _ _ (h1 x hx))⟩
      · rintro ⟨rfl | ha, hb⟩
        · rfl
        · exact absurd (hb q (List.mem_cons_self ..) (h1 j ha)) hq
theorem ray_cut (B : Int → Int) (f r df dr : Int) : ∀ n m, ray B true f r df dr n m = cut B (ray (fun _ => 0) true f r df dr n m)
  | _, 0 => by simp [ray, cut]
  | n, m + 1 => by
    have ih := ray_cut B f r df dr (n + 1) m
    unfold ray
    by_cases h : atSq (f + n * df) (r + n * dr) < 0
    · rw [if_pos h, if_pos h]; rfl
    · rw [if_neg h, if_neg h]
      by_cases hb : B (atSq (f + n * df) (r + n * dr)) = 0
      · rw [if_neg (by simp [hb]), if_neg (by simp), cut, if_neg (by simp [hb]), ih]
      · rw [if_pos (Or.inr hb), if_neg (by simp), cut, if_pos hb]
/-- The squares of a line above and below a square. -/
def upL (m : BitVec 64) (s : Nat) : List Nat := (List.range 64).filter fun j => decide (s < j) && m.getLsbD (63 - j)
def downL (m : BitVec 64) (s : Nat) : List Nat := ((List.range 64).filter fun j => decide (j < s) && m.getLsbD (63 - j)).reverse
def asInts (l : List Nat) : List Int := l.map Int.ofNat

theorem up_pair (m : BitVec 64) (s : Nat) : (asInts (upL m s)).Pairwise (· < ·) := by
  unfold asInts upL
  rw [List.pairwise_map]
  refine List.Pairwise.imp ?_ (List.Pairwise.filter _ List.pairwise_lt_range)
  intro a b h; show (a : Int) < b; omega
theorem down_pair (m : BitVec 64) (s : Nat) : (asInts (downL m s)).Pairwise (· > ·) := by
  unfold asInts downL
  rw [List.pairwise_map, List.pairwise_reverse]
  refine List.Pairwise.imp ?_ (List.Pairwise.filter _ List.pairwise_lt_range)
  intro a b h; show (b : Int) > a; omega
theorem up_mem (m : BitVec 64) (s : Nat) (j : Nat) : (j : Int) ∈ asInts (upL m s) ↔ s < j ∧ j < 64 ∧ m.getLsbD (63 - j) = true := by
  unfold asInts upL
  simp only [List.mem_map, List.mem_filter, List.mem_range, Bool.and_eq_true, decide_eq_true_eq]
  constructor
  · rintro ⟨a, ⟨h1, h2, h3⟩, h4⟩
    have : a = j := Int.ofNat.inj h4
    subst this; exact ⟨h2, h1, h3⟩
  · rintro ⟨h1, h2, h3⟩
    exact ⟨j, ⟨h2, h1, h3⟩, rfl⟩
theorem down_mem (m : BitVec 64) (s : Nat) (j : Nat) : (j : Int) ∈ asInts (downL m s) ↔ j < s ∧ j < 64 ∧ m.getLsbD (63 - j) = true := by
  unfold asInts downL
  simp only [List.mem_map, List.mem_reverse, List.mem_filter, List.mem_range, Bool.and_eq_true, decide_eq_true_eq]
  constructor
  · rintro ⟨a, ⟨h1, h2, h3⟩, h4⟩
    have : a = j := Int.ofNat.inj h4
    subst this; exact ⟨h2, h1, h3⟩
  · rintro ⟨h1, h2, h3⟩
    exact ⟨j, ⟨h2, h1, h3⟩, rfl⟩
theorem asInts_nat (l : List Nat) (q : Int) (h : q ∈ asInts l) : ∃ c : Nat, q = c := by
  unfold asInts at h
  obtain ⟨c, _, rfl⟩ := List.mem_map.1 h
  exact ⟨c, rfl⟩

/-- A bit of what is seen along a line: the square of the bit is seen on one of the two ways. -/
theorem linB_cut (t m : BitVec 64) (s : Nat) (hs : s < 64) (B : Int → Int) (hB : ∀ q : Nat, q < 64 → q ≠ s → (B q = 0 ↔ occ t q = false)) (j : Nat) (hj : j < 64) :
    (linB t (sqBit s) m).getLsbD (63 - j) = true ↔ (j : Int) ∈ cut B (asInts (upL m s)) ∨ (j : Int) ∈ cut B (asInts (downL m s)) := by
  rw [linB_bit t m s _ hs (by omega), cut_mem B (· < ·) (fun a => by omega) (fun a b => by omega) _ (up_pair m s), cut_mem B (· > ·) (fun a => by omega) (fun a b => by omega) _ (down_pair m s), up_mem, down_mem]
  rw [show 63 - (63 - j) = j by omega]
  have hup : clearFrom (brev (t &&& m)) (s + 1) j = true ↔ ∀ q ∈ asInts (upL m s), q < (j : Int) → B q = 0 := by
    rw [clearFrom_iff]
    constructor
    · intro h q hq hqj
      obtain ⟨c, rfl⟩ := asInts_nat _ _ hq
      obtain ⟨h1, h2, h3⟩ := (up_mem m s c).1 hq
      rw [hB c h2 (by omega)]
      have := h c (by omega) (by omega)
      rw [brev_get _ c h2, BitVec.getLsbD_and, h3, Bool.and_true] at this
      exact this
    · intro h c h1 h2
      rw [brev_get _ c (by omega), BitVec.getLsbD_and]
      cases hm : m.getLsbD (63 - c) with
      | false => simp
      | true =>
        have := h c ((up_mem m s c).2 ⟨by omega, by omega, hm⟩) (by omega)
        have := (hB c (by omega) (by omega)).1 this
        unfold occ at this
        simp [this]
  have hdn : clearFrom (t &&& m) (64 - s) (63 - j) = true ↔ ∀ q ∈ asInts (downL m s), q > (j : Int) → B q = 0 := by
    rw [clearFrom_iff]
    constructor
    · intro h q hq hqj
      obtain ⟨c, rfl⟩ := asInts_nat _ _ hq
      obtain ⟨h1, h2, h3⟩ := (down_mem m s c).1 hq
      rw [hB c h2 (by omega)]
      have := h (63 - c) (by omega) (by omega)
      rw [BitVec.getLsbD_and, h3, Bool.and_true] at this
      exact this
    · intro h c h1 h2
      rw [BitVec.getLsbD_and]
      cases hm : m.getLsbD c with
      | false => simp
      | true =>
        have := h ((63 - c : Nat) : Int) ((down_mem m s (63 - c)).2 ⟨by omega, by omega, by rw [show 63 - (63 - c) = c by omega]; exact hm⟩) (by omega)
        have := (hB (63 - c) (by omega) (by omega)).1 this
        unfold occ at this
        rw [show 63 - (63 - c) = c by omega] at this
        simp [this]
  rw [← hup, ← hdn]
  cases m.getLsbD (63 - j) with
  | false => simp
  | true =>
    cases clearFrom (brev (t &&& m)) (s + 1) j <;> cases clearFrom (t &&& m) (64 - s) (63 - j) <;> simp <;> omega

theorem eq_of_squares (x y : BitVec 64) (h : ∀ j, j < 64 → (x.getLsbD (63 - j) = true ↔ y.getLsbD (63 - j) = true)) : x = y := by
  apply BitVec.eq_of_getLsbD_eq
  intro i hi
  have := h (63 - i) (by omega)
  rw [show 63 - (63 - i) = i by omega] at this
  exact Bool.eq_iff_iff.2 this

def pL (df dr : Int) (s : Nat) : List Int := ray (fun _ => 0) true ((s : Int) % 8) ((s : Int) / 8) df dr 1 7
set_option maxRecDepth 1000000 in
theorem dia_up : ∀ s < 64, pL 1 1 s = asInts (upL (tabB bbDiagonalsL s) s) := by decide +kernel
set_option maxRecDepth 1000000 in
theorem dia_down : ∀ s < 64, pL (-1) (-1) s = asInts (downL (tabB bbDiagonalsL s) s) := by decide +kernel
theorem ant_up : ∀ s < 64, pL (-1) 1 s = asInts (upL (tabB bbAntiDiagonalsL s) s) := by decide +kernel
theorem ant_down : ∀ s < 64, pL 1 (-1) s = asInts (downL (tabB bbAntiDiagonalsL s) s) := by decide +kernel
theorem fil_up : ∀ s < 64, pL 0 1 s = asInts (upL (tabB bbFilesL (s % 8)) s) := by decide +kernel
theorem fil_down : ∀ s < 64, pL 0 (-1) s = asInts (downL (tabB bbFilesL (s % 8)) s) := by decide +kernel
theorem ran_up : ∀ s < 64, pL 1 0 s = asInts (upL (tabB bbRanksL (s / 8)) s) := by decide +kernel
theorem ran_down : ∀ s < 64, pL (-1) 0 s = asInts (downL (tabB bbRanksL (s / 8)) s) := by decide +kernel

end Go.Proofs.YtplkcmlpomjojaaDoor
