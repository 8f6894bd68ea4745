/- The twelve boards behind a move are those of the position behind the move: plain law of Board.update. For every move that a pseudo-legal one can be.
The squares to which a piece can go, as the engine reckons them, are those of the rules. The plain law, for every position.
A move's tags, a square that is taken, and the cells of a move: for every board and move. -/
import Derived.Test.YtnjdgooljnbebaaGreatDoorGe
import Derived.Test.YtnjdgooljnbebaaGreatDoorGh
namespace Go.Proofs.YtnjdgooljnbebaaGreatDoor
open Go Go.RowKit
set_option linter.unusedSimpArgs false
set_option linter.unusedVariables false
set_option maxRecDepth 100000

/-- Twelve boards say what stands where. -/
def Tells (F : Nat → BitVec 64) (q : List Int) : Prop := ∀ k, k < 12 → ∀ j, j < 64 → occ (F k) j = decide (q.getD j 0 = (k : Int) + 1)
theorem tells_bb (q : List Int) : Tells (bbF q) q := fun k _ j hj => occ_bb q _ j hj
theorem Tells.eq {F : Nat → BitVec 64} {q : List Int} (h : Tells F q) (k : Nat) (hk : k < 12) : F k = bbF q k := by
  apply eq_of_squares
  intro j hj
  have h1 := h k hk j hj
  have h2 := tells_bb q k hk j hj
  show occ (F k) j = true ↔ occ (bbF q k) j = true
  rw [h1, h2]
theorem Tells.same {F : Nat → BitVec 64} {q q' : List Int} (h : Tells F q) (hq : ∀ j, j < 64 → q.getD j 0 = q'.getD j 0) : Tells F q' := fun k hk j hj => by rw [h k hk j hj, hq j hj]
def loopF (F : Nat → BitVec 64) (a b : Nat) : Nat → BitVec 64 := fun k => if occ (F k) a = true then (F k &&& ~~~(sqBit b) &&& ~~~(sqBit a)) ||| sqBit b else F k &&& ~~~(sqBit b)
def promF (F : Nat → BitVec 64) (x y b : Nat) : Nat → BitVec 64 := fun k => if k = y then F y ||| sqBit b else if k = x then F x &&& ~~~(sqBit b) else F k
def passF (F : Nat → BitVec 64) (c b : Nat) : Nat → BitVec 64 := fun k => if c = 0 then (if k = 11 then ~~~(sqBit b <<< 8) &&& F 11 else F k) else if k = 5 then ~~~(sqBit b >>> 8) &&& F 5 else F k
def rookF (F : Nat → BitVec 64) (r o n : Nat) : Nat → BitVec 64 := fun k => if k = r then (F r &&& ~~~(sqBit o)) ||| sqBit n else F k
theorem dec_eq {p q : Prop} [Decidable p] [Decidable q] (h : p ↔ q) : decide p = decide q := by by_cases hp : p <;> simp_all
theorem set_here (l : List Int) (i : Nat) (z : Int) (h : i < l.length) : (l.set i z).getD i 0 = z := by rw [getD_set, if_pos ⟨rfl, h⟩]
theorem loop_yes (F : Nat → BitVec 64) (a b k : Nat) (h : occ (F k) a = true) : loopF F a b k = (F k &&& ~~~(sqBit b) &&& ~~~(sqBit a)) ||| sqBit b := by unfold loopF; rw [if_pos h]
theorem loop_no (F : Nat → BitVec 64) (a b k : Nat) (h : occ (F k) a = false) : loopF F a b k = F k &&& ~~~(sqBit b) := by unfold loopF; rw [h]; rfl
theorem loop_tells {F : Nat → BitVec 64} {q : List Int} (h : Tells F q) (hl : 64 ≤ q.length) (a b : Nat) (ha : a < 64) (hb : b < 64) (hab : a ≠ b) : Tells (loopF F a b) ((q.set a 0).set b (q.getD a 0)) := by
  intro k hk j hj
  have e1 := h k hk a ha
  have e2 := h k hk j hj
  by_cases hx : q.getD a 0 = (k : Int) + 1
  · rw [decide_eq_true hx] at e1
    rw [loop_yes F a b k e1, occ_or, occ_and, occ_and, occ_not _ _ hj, occ_not _ _ hj, occ_sq _ _ ha hj, occ_sq _ _ hb hj, e2]
    by_cases hj1 : b = j
    · subst hj1
      rw [set_here _ _ _ (by simp; omega), decide_eq_true hx]
      simp
    · rw [set_far _ _ _ _ hj1]
      by_cases hj2 : a = j
      · subst hj2
        rw [set_here _ _ _ (by omega)]
        have h0 : ¬ (0 : Int) = (k : Int) + 1 := by omega
        simp [h0, hab]
      · rw [set_far _ _ _ _ hj2]
        simp [Ne.symm hj1, Ne.symm hj2]
  · rw [decide_eq_false hx] at e1
    rw [loop_no F a b k e1, occ_and, occ_not _ _ hj, occ_sq _ _ hb hj, e2]
    by_cases hj1 : b = j
    · subst hj1
      rw [set_here _ _ _ (by simp; omega), decide_eq_false hx]
      simp
    · rw [set_far _ _ _ _ hj1]
      by_cases hj2 : a = j
      · subst hj2
        have h0 : ¬ (0 : Int) = (k : Int) + 1 := by omega
        rw [set_here _ _ _ (by omega), decide_eq_false hx, decide_eq_false h0]
        rfl
      · rw [set_far _ _ _ _ hj2]
        simp [Ne.symm hj1]
theorem prom_y (F : Nat → BitVec 64) (x y b : Nat) : promF F x y b y = F y ||| sqBit b := by unfold promF; rw [if_pos rfl]
theorem prom_x (F : Nat → BitVec 64) (x y b : Nat) (h : x ≠ y) : promF F x y b x = F x &&& ~~~(sqBit b) := by unfold promF; rw [if_neg h, if_pos rfl]
theorem prom_o (F : Nat → BitVec 64) (x y b k : Nat) (h1 : k ≠ y) (h2 : k ≠ x) : promF F x y b k = F k := by unfold promF; rw [if_neg h1, if_neg h2]
theorem prom_tells {F : Nat → BitVec 64} {q : List Int} (h : Tells F q) (hl : 64 ≤ q.length) (x y b : Nat) (hb : b < 64) (hx : x < 12) (hy : y < 12) (hxy : x ≠ y) (hq : q.getD b 0 = (x : Int) + 1) : Tells (promF F x y b) (q.set b ((y : Int) + 1)) := by
  intro k hk j hj
  by_cases hj1 : b = j
  · subst hj1
    rw [set_here _ _ _ (by omega)]
    by_cases hky : k = y
    · subst hky
      rw [prom_y, occ_or, occ_sq _ _ hb hb]
      simp
    · have hne : ¬ (y : Int) + 1 = (k : Int) + 1 := by omega
      by_cases hkx : k = x
      · subst hkx
        rw [prom_x _ _ _ _ hky, occ_and, occ_not _ _ hb, occ_sq _ _ hb hb]
        simp [hne]
      · have hne2 : ¬ (x : Int) + 1 = (k : Int) + 1 := by omega
        rw [prom_o _ _ _ _ _ hky hkx, h k hk b hb, hq, decide_eq_false hne, decide_eq_false hne2]
  · rw [set_far _ _ _ _ hj1]
    by_cases hky : k = y
    · subst hky
      rw [prom_y, occ_or, occ_sq _ _ hb hj, h k hk j hj]
      simp [Ne.symm hj1]
    · by_cases hkx : k = x
      · subst hkx
        rw [prom_x _ _ _ _ hky, occ_and, occ_not _ _ hj, occ_sq _ _ hb hj, h k hk j hj]
        simp [Ne.symm hj1]
      · rw [prom_o _ _ _ _ _ hky hkx, h k hk j hj]
theorem pass_11 (F : Nat → BitVec 64) (b : Nat) : passF F 0 b 11 = ~~~(sqBit b <<< 8) &&& F 11 := rfl
theorem pass_o0 (F : Nat → BitVec 64) (b k : Nat) (h : k ≠ 11) : passF F 0 b k = F k := by unfold passF; rw [if_pos rfl, if_neg h]
theorem pass_5 (F : Nat → BitVec 64) (c b : Nat) (h : c ≠ 0) : passF F c b 5 = ~~~(sqBit b >>> 8) &&& F 5 := by unfold passF; rw [if_neg h, if_pos rfl]
theorem pass_o1 (F : Nat → BitVec 64) (c b k : Nat) (hc : c ≠ 0) (h : k ≠ 5) : passF F c b k = F k := by unfold passF; rw [if_neg hc, if_neg h]
theorem pass_tells0 {F : Nat → BitVec 64} {q : List Int} (h : Tells F q) (hl : 64 ≤ q.length) (b : Nat) (hb : b < 64) (hb8 : 8 ≤ b) (hq : q.getD (b - 8) 0 = 12) : Tells (passF F 0 b) (q.set (b - 8) 0) := by
  intro k hk j hj
  by_cases hk1 : k = 11
  · subst hk1
    rw [pass_11, occ_and, occ_not _ _ hj, occ_shl _ _ _ hj, h 11 (by omega) j hj]
    by_cases hj1 : b - 8 = j
    · subst hj1
      rw [set_here _ _ _ (by omega), occ_sq _ _ hb (by omega)]
      have e : b - 8 + 8 = b := by omega
      simp [e, hb]
    · rw [set_far _ _ _ _ hj1]
      by_cases hj2 : j + 8 < 64
      · rw [occ_sq _ _ hb hj2]
        have : ¬ j + 8 = b := by omega
        simp [this]
      · simp [hj2]
  · rw [pass_o0 _ _ _ hk1, h k hk j hj]
    by_cases hj1 : b - 8 = j
    · subst hj1
      rw [set_here _ _ _ (by omega), hq]
      apply dec_eq
      omega
    · rw [set_far _ _ _ _ hj1]
theorem pass_tells1 {F : Nat → BitVec 64} {q : List Int} (h : Tells F q) (hl : 64 ≤ q.length) (c b : Nat) (hc : c ≠ 0) (hb8 : b + 8 < 64) (hq : q.getD (b + 8) 0 = 6) : Tells (passF F c b) (q.set (b + 8) 0) := by
  intro k hk j hj
  by_cases hk1 : k = 5
  · subst hk1
    rw [pass_5 _ _ _ hc, occ_and, occ_not _ _ hj, occ_shr _ _ _ hj, h 5 (by omega) j hj]
    by_cases hj1 : b + 8 = j
    · subst hj1
      rw [set_here _ _ _ (by omega), occ_sq _ _ (by omega) (by omega)]
      simp
    · rw [set_far _ _ _ _ hj1]
      by_cases hj2 : 8 ≤ j
      · rw [occ_sq _ _ (by omega) (by omega)]
        have : ¬ j - 8 = b := by omega
        simp [this]
      · simp [hj2]
  · rw [pass_o1 _ _ _ _ hc hk1, h k hk j hj]
    by_cases hj1 : b + 8 = j
    · subst hj1
      rw [set_here _ _ _ (by omega), hq]
      apply dec_eq
      omega
    · rw [set_far _ _ _ _ hj1]
theorem rook_r (F : Nat → BitVec 64) (r o n : Nat) : rookF F r o n r = (F r &&& ~~~(sqBit o)) ||| sqBit n := by unfold rookF; rw [if_pos rfl]
theorem rook_o (F : Nat → BitVec 64) (r o n k : Nat) (h : k ≠ r) : rookF F r o n k = F k := by unfold rookF; rw [if_neg h]
theorem rook_tells {F : Nat → BitVec 64} {q : List Int} (h : Tells F q) (hl : 64 ≤ q.length) (r o n : Nat) (hr : r < 12) (ho : o < 64) (hn : n < 64) (hon : o ≠ n) (hqo : q.getD o 0 = (r : Int) + 1) (hqn : q.getD n 0 = 0) : Tells (rookF F r o n) ((q.set o 0).set n ((r : Int) + 1)) := by
  intro k hk j hj
  by_cases hk1 : k = r
  · subst hk1
    rw [rook_r, occ_or, occ_and, occ_not _ _ hj, occ_sq _ _ ho hj, occ_sq _ _ hn hj, h k hk j hj]
    by_cases hj1 : n = j
    · subst hj1
      rw [set_here _ _ _ (by simp; omega)]
      simp
    · rw [set_far _ _ _ _ hj1]
      by_cases hj2 : o = j
      · subst hj2
        rw [set_here _ _ _ (by omega)]
        have : ¬ (0 : Int) = (k : Int) + 1 := by omega
        simp [this, hon]
      · rw [set_far _ _ _ _ hj2]
        simp [Ne.symm hj1, Ne.symm hj2]
  · rw [rook_o _ _ _ _ _ hk1, h k hk j hj]
    by_cases hj1 : n = j
    · subst hj1
      rw [set_here _ _ _ (by simp; omega), hqn]
      apply dec_eq
      omega
    · rw [set_far _ _ _ _ hj1]
      by_cases hj2 : o = j
      · subst hj2
        rw [set_here _ _ _ (by omega), hqo]
        apply dec_eq
        omega
      · rw [set_far _ _ _ _ hj2]
/-- What a pseudo-legal move is. -/
structure GoodM (p : List Int) (tn : Nat) (m : Mv) : Prop where
  ok : MvOk m
  ne : m.fr ≠ m.to
  x0 : 1 + 6 * (tn : Int) ≤ pcAt p m.fr
  x1 : pcAt p m.fr ≤ 6 + 6 * (tn : Int)
  pr : m.pr ≠ 0 → pcAt p m.fr = 6 + 6 * (tn : Int) ∧ 2 ≤ m.pr ∧ m.pr ≤ 5
  pa : passing p m = true → pcAt p m.to = 0 → 0 ≤ m.to - 8 + 16 * (tn : Int) ∧ m.to - 8 + 16 * (tn : Int) ≤ 63 ∧ pcAt p (m.to - 8 + 16 * (tn : Int)) = 12 - 6 * (tn : Int) ∧ m.fr / 8 = m.to / 8 - 1 + 2 * (tn : Int)
  ca : castM p m = true → m.pr = 0 ∧ pcAt p m.to = 0 ∧ m.fr = 4 + 56 * (tn : Int) ∧ ((m.to = m.fr + 2 ∧ pcAt p (m.fr + 3) = 3 + 6 * (tn : Int) ∧ pcAt p (m.fr + 1) = 0) ∨ (m.to = m.fr - 2 ∧ pcAt p (m.fr - 4) = 3 + 6 * (tn : Int) ∧ pcAt p (m.fr - 1) = 0))
/-- The twelve boards behind a move. -/
def passM (p : List Int) (m : Mv) : Bool := passing p m && decide (pcAt p m.to = 0)
def updF (p : List Int) (tn : Nat) (m : Mv) : Nat → BitVec 64 :=
  let F1 := loopF (bbF p) m.fr.toNat m.to.toNat
  let F2 := if m.pr = 0 then F1 else promF F1 (5 + 6 * tn) ((m.pr - 1).toNat + 6 * tn) m.to.toNat
  let F3 := if passM p m = true then passF F2 tn m.to.toNat else F2
  if castM p m = true then (if m.to = m.fr + 2 then rookF F3 (2 + 6 * tn) (7 + 56 * tn) (5 + 56 * tn) else rookF F3 (2 + 6 * tn) (56 * tn) (3 + 56 * tn)) else F3
theorem made_sq (p : List Int) (m : Mv) (j : Nat) (hj : j < 64) : (madeB p m).getD j 0 = (mdD p m).getD j 0 := by
  unfold madeB
  rw [set_far _ _ _ _ (by omega), set_far _ _ _ _ (by omega)]
  have hG : (mdG p m).getD j 0 = (mdD p m).getD j 0 := by
    unfold mdG
    rw [set_far _ _ _ _ (by omega)]
    have hE : (mdE p m).getD j 0 = (mdD p m).getD j 0 := by
      unfold mdE
      rw [set_far _ _ _ _ (by omega), set_far _ _ _ _ (by omega)]
    unfold mdF
    split
    · rw [set_far _ _ _ _ (by omega), hE]
    · exact hE
  unfold mdH
  split
  · rw [set_far _ _ _ _ (by omega), hG]
  · exact hG
theorem upd_tells (p : List Int) (hl : p.length = 69) (tn : Nat) (htn : tn ≤ 1) (hT : p.getD 64 0 = (tn : Int)) (m : Mv) (h : GoodM p tn m) : Tells (updF p tn m) (madeB p m) := by
  obtain ⟨⟨f0, f1, t0, t1, r0, r1⟩, hne, x0, x1, hpr, hpa, hca⟩ := h
  obtain ⟨fr, tq, pr⟩ := m
  simp only at f0 f1 t0 t1 r0 r1 hne x0 x1 hpr hpa hca
  obtain ⟨a, rfl⟩ := Int.eq_ofNat_of_zero_le f0
  obtain ⟨b, rfl⟩ := Int.eq_ofNat_of_zero_le t0
  have ha : a < 64 := by omega
  have hb : b < 64 := by omega
  have hab : a ≠ b := by omega
  have hpcA : pcAt p (a : Int) = p.getD a 0 := by simp [pcAt]
  have hpcB : pcAt p (b : Int) = p.getD b 0 := by simp [pcAt]
  have T1 := loop_tells (tells_bb p) (by omega) a b ha hb hab
  have L1 : ((p.set a 0).set b (p.getD a 0)).length = 69 := by simp [hl]
  have G1 : ∀ j, j < 64 → ((p.set a 0).set b (p.getD a 0)).getD j 0 = if b = j then p.getD a 0 else if a = j then 0 else p.getD j 0 := by
    intro j hj
    rw [getD_set, getD_set, List.length_set]
    by_cases h1 : b = j
    · rw [if_pos ⟨h1, by omega⟩, if_pos h1]
    · rw [if_neg (fun h => h1 h.1), if_neg h1]
      by_cases h2 : a = j
      · rw [if_pos ⟨h2, by omega⟩, if_pos h2]
      · rw [if_neg (fun h => h2 h.1), if_neg h2]
  generalize hq1 : (p.set a 0).set b (p.getD a 0) = q1 at T1 L1 G1
  -- the promotion
  obtain ⟨q2, F2, hF2, T2, L2, G2⟩ : ∃ q2 F2, F2 = (if pr = 0 then loopF (bbF p) a b else promF (loopF (bbF p) a b) (5 + 6 * tn) ((pr - 1).toNat + 6 * tn) b) ∧ Tells F2 q2 ∧ q2.length = 69 ∧ ∀ j, j < 64 → q2.getD j 0 = if b = j then (if pr = 0 then p.getD a 0 else pr + 6 * (tn : Int)) else if a = j then 0 else p.getD j 0 := by
    by_cases hp0 : pr = 0
    · exact ⟨q1, _, rfl, by rw [if_pos hp0]; exact T1, L1, fun j hj => by rw [G1 j hj, if_pos hp0]⟩
    · obtain ⟨hx, p2, p5⟩ := hpr hp0
      refine ⟨q1.set b (pr + 6 * (tn : Int)), _, rfl, ?_, by simp [L1], fun j hj => ?_⟩
      · rw [if_neg hp0]
        have hy : pr + 6 * (tn : Int) = (((pr - 1).toNat + 6 * tn : Nat) : Int) + 1 := by omega
        rw [hy]
        exact prom_tells T1 (by omega) (5 + 6 * tn) _ b hb (by omega) (by omega) (by omega) (by rw [G1 b hb, if_pos rfl, ← hpcA, hx]; push_cast; omega)
      · rw [getD_set, L1, G1 j hj, if_neg hp0]
        by_cases h1 : b = j
        · rw [if_pos ⟨h1, by omega⟩, if_pos h1]
        · rw [if_neg (fun h => h1 h.1), if_neg h1, if_neg h1]
  clear T1 L1 G1 hq1
  by_cases hps : passM p ⟨(a : Int), (b : Int), pr⟩ = true
  · -- taken in passing
    have hps' := hps
    simp only [passM, Bool.and_eq_true, decide_eq_true_eq] at hps'
    obtain ⟨hp1, hp2⟩ := hps'
    obtain ⟨e0, e1, he, hrow⟩ := hpa hp1 hp2
    have hnc : castM p ⟨(a : Int), (b : Int), pr⟩ = false := by
      simp only [passing, Bool.and_eq_true, decide_eq_true_eq] at hp1
      simp [castM, hp1.1]
    obtain ⟨e, hee⟩ := Int.eq_ofNat_of_zero_le e0
    have hpcE : pcAt p ((b : Int) - 8 + 16 * (tn : Int)) = p.getD e 0 := by rw [hee]; simp [pcAt]
    have heb : e ≠ b := by omega
    have hea : a ≠ e := by
      intro hh
      have hfile : (a : Int) % 8 ≠ (b : Int) % 8 := by
        simp only [passing, Bool.and_eq_true, decide_eq_true_eq] at hp1
        exact hp1.2
      rw [hh] at hfile
      omega
    have hq2e : q2.getD e 0 = 12 - 6 * (tn : Int) := by rw [G2 e (by omega), if_neg (Ne.symm heb), if_neg hea, ← hpcE, he]
    have T3 : Tells (passF F2 tn b) (q2.set e 0) := by
      rcases (show tn = 0 ∨ tn = 1 by omega) with rfl | rfl
      · have : e = b - 8 := by omega
        rw [this]
        exact pass_tells0 T2 (by omega) b hb (by omega) (by rw [← this, hq2e]; rfl)
      · have : e = b + 8 := by omega
        rw [this]
        exact pass_tells1 T2 (by omega) 1 b (by omega) (by omega) (by rw [← this, hq2e]; rfl)
    have hupd : updF p tn ⟨(a : Int), (b : Int), pr⟩ = passF F2 tn b := by
      unfold updF
      simp only [hnc, hps, if_true, Int.toNat_natCast]
      rw [← hF2]
      simp
    rw [hupd]
    refine T3.same fun j hj => ?_
    rw [made_sq _ _ j hj]
    have htk : tkSq p ⟨(a : Int), (b : Int), pr⟩ = (e : Int) := by
      unfold tkSq
      rw [if_neg (by simpa using hp2), if_pos hp1]
      simp only [atSq]
      rw [if_neg (by omega)]
      omega
    have htki : tkIs p ⟨(a : Int), (b : Int), pr⟩ = true := by simp [tkIs, hp1]
    have hD : (mdD p ⟨(a : Int), (b : Int), pr⟩) = mdC p ⟨(a : Int), (b : Int), pr⟩ := by unfold mdD; rw [hnc]; rfl
    rw [hD, getD_set, L2, G2 j hj]
    unfold mdC mdB mdA
    rw [htki, htk]
    simp only [if_true, Int.toNat_natCast, hT, hpcA]
    by_cases hp0 : pr = 0
    · simp only [if_pos hp0, getD_set, List.length_set, hl]
      repeat' split
      all_goals first | rfl | omega
    · simp only [if_neg hp0, getD_set, List.length_set, hl]
      repeat' split
      all_goals first | rfl | omega
  · have hps2 : passM p ⟨(a : Int), (b : Int), pr⟩ = false := by simpa using hps
    -- what is taken stands where the move goes
    have hA : ∀ j, j < 64 → (mdC p ⟨(a : Int), (b : Int), pr⟩).getD j 0 = q2.getD j 0 := by
      intro j hj
      rw [G2 j hj]
      have hAj : ∀ j, j < 64 → j ≠ b → (mdA p ⟨(a : Int), (b : Int), pr⟩).getD j 0 = p.getD j 0 := by
        intro j hj hjb
        unfold mdA
        split
        · rename_i htk
          have hto : pcAt p (b : Int) ≠ 0 := by
            intro h0
            simp only [tkIs, h0, ne_eq, not_true_eq_false, decide_false, Bool.false_or] at htk
            simp [passM, htk, h0] at hps2
          have : tkSq p ⟨(a : Int), (b : Int), pr⟩ = (b : Int) := by unfold tkSq; rw [if_pos hto]
          rw [this, set_far _ _ _ _ (by simp; omega)]
        · rfl
      have hLA : (mdA p ⟨(a : Int), (b : Int), pr⟩).length = 69 := mdA_len p _ hl
      unfold mdC mdB
      by_cases hp0 : pr = 0
      · simp only [if_pos hp0, getD_set, List.length_set, hLA, Int.toNat_natCast, hpcA]
        by_cases h1 : b = j
        · rw [if_pos ⟨h1, by omega⟩, if_pos h1]
        · rw [if_neg (fun h => h1 h.1), if_neg h1]
          by_cases h2 : a = j
          · rw [if_pos ⟨h2, by omega⟩, if_pos h2]
          · rw [if_neg (fun h => h2 h.1), if_neg h2, hAj j hj (Ne.symm h1)]
      · simp only [if_neg hp0, getD_set, List.length_set, hLA, Int.toNat_natCast, hT]
        by_cases h1 : b = j
        · rw [if_pos ⟨h1, by omega⟩, if_pos h1]
        · rw [if_neg (fun h => h1 h.1), if_neg (fun h => h1 h.1), if_neg h1]
          by_cases h2 : a = j
          · rw [if_pos ⟨h2, by omega⟩, if_pos h2]
          · rw [if_neg (fun h => h2 h.1), if_neg h2, hAj j hj (Ne.symm h1)]
    by_cases hc : castM p ⟨(a : Int), (b : Int), pr⟩ = true
    · obtain ⟨hp0, hto0, hfr, hcc⟩ := hca hc
      have hLC := mdC_len p ⟨(a : Int), (b : Int), pr⟩ hl
      rcases hcc with ⟨hto, hrk, hmid⟩ | ⟨hto, hrk, hmid⟩
      · have hupd : updF p tn ⟨(a : Int), (b : Int), pr⟩ = rookF F2 (2 + 6 * tn) (7 + 56 * tn) (5 + 56 * tn) := by
          unfold updF
          simp only [hc, hps2, if_true, Int.toNat_natCast]
          rw [if_pos hto, ← hF2]
          simp
        rw [hupd]
        have hro : pcAt p ((a : Int) + 3) = p.getD (7 + 56 * tn) 0 := (congrArg (pcAt p) (show (a : Int) + 3 = ((7 + 56 * tn : Nat) : Int) by omega)).trans (pcAt_nat p _)
        have hmi : pcAt p ((a : Int) + 1) = p.getD (5 + 56 * tn) 0 := (congrArg (pcAt p) (show (a : Int) + 1 = ((5 + 56 * tn : Nat) : Int) by omega)).trans (pcAt_nat p _)
        have T4 := rook_tells T2 (by omega) (2 + 6 * tn) (7 + 56 * tn) (5 + 56 * tn) (by omega) (by omega) (by omega) (by omega) (by rw [G2 _ (by omega), if_neg (by omega), if_neg (by omega), ← hro, hrk]; push_cast; omega) (by rw [G2 _ (by omega), if_neg (by omega), if_neg (by omega), ← hmi, hmid])
        refine T4.same fun j hj => ?_
        rw [made_sq _ _ j hj]
        unfold mdD
        rw [if_pos hc]
        have hcor : (cornerM ⟨(a : Int), (b : Int), pr⟩).toNat = 7 + 56 * tn := by simp only [cornerM]; rw [if_neg (by omega)]; omega
        have hmd : (((a : Int) + (b : Int)) / 2).toNat = 5 + 56 * tn := by omega
        simp only [hcor, hmd, hT, getD_set, List.length_set, hLC, L2, hA j hj]
        have e3 : (((2 + 6 * tn : Nat) : Int) + 1) = 3 + 6 * (tn : Int) := by omega
        rw [e3]
      · have hupd : updF p tn ⟨(a : Int), (b : Int), pr⟩ = rookF F2 (2 + 6 * tn) (56 * tn) (3 + 56 * tn) := by
          unfold updF
          simp only [hc, hps2, if_true, Int.toNat_natCast]
          rw [if_neg (by omega), ← hF2]
          simp
        rw [hupd]
        have hro : pcAt p ((a : Int) - 4) = p.getD (56 * tn) 0 := (congrArg (pcAt p) (show (a : Int) - 4 = ((56 * tn : Nat) : Int) by omega)).trans (pcAt_nat p _)
        have hmi : pcAt p ((a : Int) - 1) = p.getD (3 + 56 * tn) 0 := (congrArg (pcAt p) (show (a : Int) - 1 = ((3 + 56 * tn : Nat) : Int) by omega)).trans (pcAt_nat p _)
        have T4 := rook_tells T2 (by omega) (2 + 6 * tn) (56 * tn) (3 + 56 * tn) (by omega) (by omega) (by omega) (by omega) (by rw [G2 _ (by omega), if_neg (by omega), if_neg (by omega), ← hro, hrk]; push_cast; omega) (by rw [G2 _ (by omega), if_neg (by omega), if_neg (by omega), ← hmi, hmid])
        refine T4.same fun j hj => ?_
        rw [made_sq _ _ j hj]
        unfold mdD
        rw [if_pos hc]
        have hcor : (cornerM ⟨(a : Int), (b : Int), pr⟩).toNat = 56 * tn := by simp only [cornerM]; rw [if_pos (by omega)]; omega
        have hmd : (((a : Int) + (b : Int)) / 2).toNat = 3 + 56 * tn := by omega
        simp only [hcor, hmd, hT, getD_set, List.length_set, hLC, L2, hA j hj]
        have e3 : (((2 + 6 * tn : Nat) : Int) + 1) = 3 + 6 * (tn : Int) := by omega
        rw [e3]
    · have hc2 : castM p ⟨(a : Int), (b : Int), pr⟩ = false := by simpa using hc
      have hupd : updF p tn ⟨(a : Int), (b : Int), pr⟩ = F2 := by
        unfold updF
        simp only [hc2, hps2, Int.toNat_natCast]
        rw [← hF2]
        simp
      rw [hupd]
      refine T2.same fun j hj => ?_
      rw [made_sq _ _ j hj, ← hA j hj]
      unfold mdD
      rw [hc2]
      rfl
/-- What stands where behind a move. -/
theorem tells_at {F : Nat → BitVec 64} {q : List Int} (h : Tells F q) (k : Nat) (hk : k < 12) (j : Nat) (hj : j < 64) : q.getD j 0 = (k : Int) + 1 ↔ occ (F k) j = true := by
  rw [h k hk j hj]
  simp
theorem lastK_only (q : List Int) (k : Int) (j0 : Nat) (h : ∀ j, j < 64 → (q.getD j 0 = k ↔ j = j0)) : ∀ n, n ≤ 64 → lastK q k n = if j0 < n then (j0 : Int) else -1
  | 0, _ => by rw [lastK, if_neg (by omega)]
  | n + 1, hn => by
    rw [lastK]
    by_cases e : q.getD n 0 = k
    · have := (h n (by omega)).1 e
      subst this
      rw [if_pos e, if_pos (by omega)]
    · have hne : n ≠ j0 := fun hh => e ((h n (by omega)).2 hh)
      rw [if_neg e, lastK_only q k j0 h n (by omega)]
      by_cases h1 : j0 < n
      · rw [if_pos h1, if_pos (by omega)]
      · rw [if_neg h1, if_neg (by omega)]
/-- A king's board behind a move: another man than the king of that colour moves. -/
theorem updF_king (p : List Int) (tn : Nat) (htn : tn ≤ 1) (m : Mv) (h : GoodM p tn m) (c : Nat) (hc : c ≤ 1) (hk : kindOf (pcAt p m.to) ≠ 1) : updF p tn m (6 * c) = loopF (bbF p) m.fr.toNat m.to.toNat (6 * c) := by
  have hpr : ∀ F, promF F (5 + 6 * tn) ((m.pr - 1).toNat + 6 * tn) m.to.toNat (6 * c) = F (6 * c) ∨ m.pr = 0 := by
    intro F
    by_cases h0 : m.pr = 0
    · exact Or.inr h0
    · left
      obtain ⟨_, p2, p5⟩ := h.pr h0
      unfold promF
      rw [if_neg (by omega), if_neg (by omega)]
  have hpa : ∀ F : Nat → BitVec 64, passF F tn m.to.toNat (6 * c) = F (6 * c) := by
    intro F
    unfold passF
    split
    · rw [if_neg (by omega)]
    · rw [if_neg (by omega)]
  have hro : ∀ (F : Nat → BitVec 64) o n, rookF F (2 + 6 * tn) o n (6 * c) = F (6 * c) := by
    intro F o n
    unfold rookF
    rw [if_neg (by omega)]
  have h2 : (if m.pr = 0 then loopF (bbF p) m.fr.toNat m.to.toNat else promF (loopF (bbF p) m.fr.toNat m.to.toNat) (5 + 6 * tn) ((m.pr - 1).toNat + 6 * tn) m.to.toNat) (6 * c) = loopF (bbF p) m.fr.toNat m.to.toNat (6 * c) := by
    by_cases h0 : m.pr = 0
    · rw [if_pos h0]
    · rw [if_neg h0]
      exact (hpr _).resolve_right h0
  unfold updF
  split
  · split
    · rw [hro]
      split
      · rw [hpa, h2]
      · exact h2
    · rw [hro]
      split
      · rw [hpa, h2]
      · exact h2
  · split
    · rw [hpa, h2]
    · exact h2
/-- Where a king stands behind a move. -/
theorem made_king (p : List Int) (hl : p.length = 69) (tn : Nat) (htn : tn ≤ 1) (hT : p.getD 64 0 = (tn : Int)) (m : Mv) (h : GoodM p tn m) (c : Nat) (hc : c ≤ 1) (hkt : kindOf (pcAt p m.to) ≠ 1) (k : Nat) (hk : k < 64) (hu : ∀ j, j < 64 → (p.getD j 0 = 1 + 6 * (c : Int) ↔ j = k)) :
    ∀ j, j < 64 → ((madeB p m).getD j 0 = 1 + 6 * (c : Int) ↔ j = if m.fr.toNat = k then m.to.toNat else k) := by
  intro j hj
  have hT2 := upd_tells p hl tn htn hT m h
  have e1 : (1 : Int) + 6 * (c : Int) = ((6 * c : Nat) : Int) + 1 := by push_cast; omega
  have f0 := h.ok.f0
  have f1 := h.ok.f1
  have t0 := h.ok.t0
  have t1 := h.ok.t1
  have ha : m.fr.toNat < 64 := by omega
  have hb : m.to.toNat < 64 := by omega
  rw [e1, tells_at hT2 (6 * c) (by omega) j hj, updF_king p tn htn m h c hc hkt]
  have hTl := loop_tells (tells_bb p) (by omega) m.fr.toNat m.to.toNat ha hb (by have := h.ne; omega)
  rw [← tells_at hTl (6 * c) (by omega) j hj, ← e1, getD_set, getD_set, List.length_set]
  have hto : p.getD m.to.toNat 0 ≠ 1 + 6 * (c : Int) := by
    intro hh
    apply hkt
    show kindOf (p.getD m.to.toNat 0) = 1
    rw [hh]
    unfold kindOf
    split <;> omega
  have hbk : m.to.toNat ≠ k := fun hh => hto ((hu _ hb).2 hh)
  have hab : m.fr.toNat ≠ m.to.toNat := by have := h.ne; omega
  by_cases hj1 : m.to.toNat = j
  · rw [if_pos ⟨hj1, by omega⟩]
    by_cases hfk : m.fr.toNat = k
    · rw [if_pos hfk, (hu _ ha).2 hfk]
      simp [hj1]
    · rw [if_neg hfk]
      constructor
      · intro hh
        exact absurd ((hu _ ha).1 hh) hfk
      · intro hh
        exact absurd (hj1.trans hh) hbk
  · rw [if_neg (fun h => hj1 h.1)]
    by_cases hj2 : m.fr.toNat = j
    · rw [if_pos ⟨hj2, by omega⟩]
      constructor
      · intro hh
        omega
      · intro hh
        exfalso
        by_cases hfk : m.fr.toNat = k
        · rw [if_pos hfk] at hh
          exact hj1 hh.symm
        · rw [if_neg hfk] at hh
          omega
    · rw [if_neg (fun h => hj2 h.1), hu j hj]
      by_cases hfk : m.fr.toNat = k
      · rw [if_pos hfk]
        constructor
        · intro hh
          omega
        · intro hh
          exact absurd hh.symm hj1
      · rw [if_neg hfk]
end Go.Proofs.YtnjdgooljnbebaaGreatDoor
namespace Go.Proofs.YtnjdgooljnbebaaGreatDoor
open Go Go.RowKit
set_option maxHeartbeats 4000000
set_option linter.unusedSimpArgs false
set_option linter.unusedVariables false
set_option maxRecDepth 100000

theorem hv_reach (p : List Int) (hp : Pos p) (s j : Nat) (hs : s < 64) (hj : j < 64) : occ (hvB (takB p) s) j = true ↔ (j : Int) ∈ rays (pcAt p) true ((s : Int) % 8) ((s : Int) / 8) straightL := by
  have hB := tak_free p hp s
  unfold hvB
  rw [occ_or, Bool.or_eq_true]
  show (linB _ _ _).getLsbD (63 - j) = true ∨ (linB _ _ _).getLsbD (63 - j) = true ↔ _
  rw [linB_cut _ _ s hs _ hB j hj, linB_cut _ _ s hs _ hB j hj, ← fil_up s hs, ← fil_down s hs, ← ran_up s hs, ← ran_down s hs]
  unfold pL
  rw [← ray_cut, ← ray_cut, ← ray_cut, ← ray_cut]
  have e : rays (pcAt p) true ((s : Int) % 8) ((s : Int) / 8) straightL = ray (pcAt p) true ((s : Int) % 8) ((s : Int) / 8) 0 1 1 7 ++ (ray (pcAt p) true ((s : Int) % 8) ((s : Int) / 8) 1 0 1 7 ++ (ray (pcAt p) true ((s : Int) % 8) ((s : Int) / 8) 0 (-1) 1 7 ++ (ray (pcAt p) true ((s : Int) % 8) ((s : Int) / 8) (-1) 0 1 7 ++ []))) := rfl
  rw [e]
  simp only [List.mem_append, List.not_mem_nil, or_false]
  constructor
  · rintro ((h | h) | (h | h)) <;> simp [h]
  · rintro (h | h | h | h) <;> simp [h]
theorem dia_reach (p : List Int) (hp : Pos p) (s j : Nat) (hs : s < 64) (hj : j < 64) : occ (diaB (takB p) s) j = true ↔ (j : Int) ∈ rays (pcAt p) true ((s : Int) % 8) ((s : Int) / 8) slantingL := by
  have hB := tak_free p hp s
  unfold diaB
  rw [occ_or, Bool.or_eq_true]
  show (linB _ _ _).getLsbD (63 - j) = true ∨ (linB _ _ _).getLsbD (63 - j) = true ↔ _
  rw [linB_cut _ _ s hs _ hB j hj, linB_cut _ _ s hs _ hB j hj, ← dia_up s hs, ← dia_down s hs, ← ant_up s hs, ← ant_down s hs]
  unfold pL
  rw [← ray_cut, ← ray_cut, ← ray_cut, ← ray_cut]
  have e : rays (pcAt p) true ((s : Int) % 8) ((s : Int) / 8) slantingL = ray (pcAt p) true ((s : Int) % 8) ((s : Int) / 8) 1 1 1 7 ++ (ray (pcAt p) true ((s : Int) % 8) ((s : Int) / 8) 1 (-1) 1 7 ++ (ray (pcAt p) true ((s : Int) % 8) ((s : Int) / 8) (-1) (-1) 1 7 ++ (ray (pcAt p) true ((s : Int) % 8) ((s : Int) / 8) (-1) 1 1 7 ++ []))) := rfl
  rw [e]
  simp only [List.mem_append, List.not_mem_nil, or_false]
  constructor
  · rintro ((h | h) | (h | h)) <;> simp [h]
  · rintro (h | h | h | h) <;> simp [h]
theorem ray_near (B B' : Int → Int) (f r df dr : Int) (n m : Nat) : ray B false f r df dr n m = ray B' false f r df dr n m := by
  cases m with
  | zero => rfl
  | succ m => simp [ray]
theorem rays_near (B B' : Int → Int) (f r : Int) : ∀ l : List Int, rays B false f r l = rays B' false f r l
  | [] => rfl
  | [_] => rfl
  | a :: b :: l => by
    rw [rays, rays, rays_near B B' f r l, ray_near B B']
theorem king_reach : ∀ s < 64, ∀ j < 64, occ (tabB bbKingMovesL s) j = (rays (fun _ => 0) false (((s : Nat) : Int) % 8) (((s : Nat) : Int) / 8) (straightL ++ slantingL)).contains ((j : Nat) : Int) := by decide +kernel
theorem knight_reach : ∀ s < 64, ∀ j < 64, occ (tabB bbKnightMovesL s) j = (rays (fun _ => 0) false (((s : Nat) : Int) % 8) (((s : Nat) : Int) / 8) jumpsL).contains ((j : Nat) : Int) := by decide +kernel
/-- The square that can be taken in passing. -/
def epBit (p : List Int) : BitVec 64 := if p.getD 66 0 = -1 then 0#64 else sqBit (p.getD 66 0).toNat
def ownB (p : List Int) (tn : Nat) : BitVec 64 := if tn = 1 then blackB p else whiteB p
/-- The squares of a pawn. -/
def pawnM (p : List Int) (tn s : Nat) : BitVec 64 :=
  if tn = 0 then
    (((sqBit s &&& 18374403900871474942#64 &&& 18446744073709551360#64) >>> 9) &&& (blackB p ||| epBit p)) ||| (((sqBit s &&& 9187201950435737471#64 &&& 18446744073709551360#64) >>> 7) &&& (blackB p ||| epBit p)) ||| (((sqBit s &&& 18446744073709551360#64) >>> 8) &&& empB p) ||| ((((((sqBit s &&& 18446744073709551360#64) >>> 8) &&& empB p) &&& 280375465082880#64) >>> 8) &&& empB p)
  else
    (((sqBit s &&& 18374403900871474942#64 &&& 72057594037927935#64) <<< 7) &&& (whiteB p ||| epBit p)) ||| (((sqBit s &&& 9187201950435737471#64 &&& 72057594037927935#64) <<< 9) &&& (whiteB p ||| epBit p)) ||| (((sqBit s &&& 72057594037927935#64) <<< 8) &&& empB p) ||| ((((((sqBit s &&& 72057594037927935#64) <<< 8) &&& empB p) &&& 16711680#64) <<< 8) &&& empB p)
/-- The squares of a piece of kind k + 1. -/
def possB (p : List Int) (tn k s : Nat) : BitVec 64 :=
  if k = 0 then tabB bbKingMovesL s else if k = 1 then diaB (takB p) s ||| hvB (takB p) s else if k = 2 then hvB (takB p) s else if k = 3 then diaB (takB p) s else if k = 4 then tabB bbKnightMovesL s else pawnM p tn s
theorem rays_app (B : Int → Int) (far : Bool) (f r : Int) (l : List Int) : rays B far f r (straightL ++ l) = rays B far f r straightL ++ rays B far f r l := by
  show ray B far f r 0 1 1 7 ++ (ray B far f r 1 0 1 7 ++ (ray B far f r 0 (-1) 1 7 ++ (ray B far f r (-1) 0 1 7 ++ rays B far f r l))) = (ray B far f r 0 1 1 7 ++ (ray B far f r 1 0 1 7 ++ (ray B far f r 0 (-1) 1 7 ++ (ray B far f r (-1) 0 1 7 ++ [])))) ++ rays B far f r l
  simp only [List.append_assoc, List.append_nil, List.nil_append]
theorem poss_reach (p : List Int) (hp : Pos p) (tn k s j : Nat) (hk : k < 5) (hs : s < 64) (hj : j < 64) (hx : kindOf (pcAt p s) = (k : Int) + 1) : occ (possB p tn k s) j = true ↔ (j : Int) ∈ reach p s := by
  unfold reach
  rw [hx]
  rcases (show k = 0 ∨ k = 1 ∨ k = 2 ∨ k = 3 ∨ k = 4 by omega) with rfl | rfl | rfl | rfl | rfl
  · have e : rays (pcAt p) (farL ((0 : Nat) + 1)) ((s : Int) % 8) ((s : Int) / 8) (waysL ((0 : Nat) + 1)) = rays (pcAt p) false ((s : Int) % 8) ((s : Int) / 8) (straightL ++ slantingL) := rfl
    rw [e, rays_near (pcAt p) (fun _ => 0)]
    show occ (tabB bbKingMovesL s) j = true ↔ _
    rw [king_reach s hs j hj]
    simp
  · have e : rays (pcAt p) (farL ((1 : Nat) + 1)) ((s : Int) % 8) ((s : Int) / 8) (waysL ((1 : Nat) + 1)) = rays (pcAt p) true ((s : Int) % 8) ((s : Int) / 8) (straightL ++ slantingL) := rfl
    rw [e, rays_app, List.mem_append, ← hv_reach p hp s j hs hj, ← dia_reach p hp s j hs hj]
    show occ (diaB (takB p) s ||| hvB (takB p) s) j = true ↔ _
    rw [occ_or, Bool.or_eq_true]
    exact Or.comm
  · have e : rays (pcAt p) (farL ((2 : Nat) + 1)) ((s : Int) % 8) ((s : Int) / 8) (waysL ((2 : Nat) + 1)) = rays (pcAt p) true ((s : Int) % 8) ((s : Int) / 8) straightL := rfl
    rw [e, ← hv_reach p hp s j hs hj]
    exact Iff.rfl
  · have e : rays (pcAt p) (farL ((3 : Nat) + 1)) ((s : Int) % 8) ((s : Int) / 8) (waysL ((3 : Nat) + 1)) = rays (pcAt p) true ((s : Int) % 8) ((s : Int) / 8) slantingL := rfl
    rw [e, ← dia_reach p hp s j hs hj]
    exact Iff.rfl
  · have e : rays (pcAt p) (farL ((4 : Nat) + 1)) ((s : Int) % 8) ((s : Int) / 8) (waysL ((4 : Nat) + 1)) = rays (pcAt p) false ((s : Int) % 8) ((s : Int) / 8) jumpsL := rfl
    rw [e, rays_near (pcAt p) (fun _ => 0)]
    show occ (tabB bbKnightMovesL s) j = true ↔ _
    rw [knight_reach s hs j hj]
    simp
theorem occ_emp (p : List Int) (hp : Pos p) (j : Nat) (hj : j < 64) : occ (empB p) j = decide (p.getD j 0 = 0) := by
  have h := occ_tak p hp j hj
  unfold takB at h
  rw [occ_not _ _ hj] at h
  rw [Bool.eq_iff_iff]
  rw [Bool.eq_iff_iff] at h
  simp only [Bool.not_eq_true', decide_eq_true_eq] at h ⊢
  constructor
  · intro he
    by_cases h0 : p.getD j 0 = 0
    · exact h0
    · exact absurd (h.2 h0) (by simp [he])
  · intro h0
    by_cases he : occ (empB p) j = true
    · exact he
    · exact absurd h0 (h.1 (by simpa using he))
theorem mask3 : ∀ j < 64, occ 280375465082880#64 j = decide (j / 8 = 2) := by decide +kernel
theorem mask6 : ∀ j < 64, occ 16711680#64 j = decide (j / 8 = 5) := by decide +kernel
/-- What can be taken in passing, as the rules have it. -/
structure EpOk (p : List Int) (tn : Nat) : Prop where
  ep : p.getD 66 0 = -1 ∨ ∃ e : Nat, p.getD 66 0 = (e : Int) ∧ e < 64 ∧ (e : Int) / 8 = 5 - 3 * (tn : Int) ∧ p.getD e 0 = 0 ∧ p.getD ((e : Int) - 8 + 16 * (tn : Int)).toNat 0 = 12 - 6 * (tn : Int)
theorem ep_bit (p : List Int) (tn : Nat) (h : EpOk p tn) (j : Nat) (hj : j < 64) : occ (epBit p) j = true ↔ p.getD j 0 = 0 ∧ (j : Int) = p.getD 66 0 ∧ (j : Int) / 8 = 5 - 3 * (tn : Int) := by
  unfold epBit
  rcases h.ep with h1 | ⟨e, h1, h2, h3, h4, h5⟩
  · rw [if_pos h1, h1]
    constructor
    · intro hh
      simp [occ] at hh
    · rintro ⟨_, hh, _⟩
      omega
  · rw [if_neg (by omega), h1, Int.toNat_natCast, occ_sq _ _ h2 hj]
    simp only [decide_eq_true_eq]
    constructor
    · rintro rfl
      exact ⟨h4, rfl, h3⟩
    · rintro ⟨_, hh, _⟩
      omega
theorem take_ok (p : List Int) (hp : Pos p) (tn : Nat) (htn : tn ≤ 1) (h : EpOk p tn) (j : Nat) (hj : j < 64) : takeOk p tn (j : Int) = true ↔ occ ((if tn = 0 then blackB p else whiteB p) ||| epBit p) j = true := by
  have hpc : pcAt p (j : Int) = p.getD j 0 := by simp [pcAt]
  have h0 := hp.lo j hj
  have h1 := hp.hi j hj
  rw [occ_or, Bool.or_eq_true, ep_bit p tn h j hj]
  unfold takeOk
  rw [hpc]
  simp only [Bool.or_eq_true, Bool.and_eq_true, decide_eq_true_eq]
  rcases (show tn = 0 ∨ tn = 1 by omega) with rfl | rfl
  · rw [if_pos rfl, occ_black p j hj]
    simp only [Bool.and_eq_true, decide_eq_true_eq, sideOf]
    constructor
    · rintro (⟨a, b⟩ | h)
      · left
        split at b <;> omega
      · exact Or.inr h
    · rintro (⟨a, b⟩ | h)
      · left
        refine ⟨by omega, ?_⟩
        rw [if_pos (by omega)]
        decide
      · exact Or.inr h
  · rw [if_neg (by decide), occ_white p j hj]
    simp only [Bool.and_eq_true, decide_eq_true_eq, sideOf]
    constructor
    · rintro (⟨a, b⟩ | h)
      · left
        split at b <;> omega
      · exact Or.inr h
    · rintro (⟨a, b⟩ | h)
      · left
        refine ⟨by omega, ?_⟩
        rw [if_neg (by omega)]
        decide
      · exact Or.inr h
theorem one_mem (x t : Int) : x ∈ oneSq t ↔ 0 ≤ t ∧ x = t := by
  unfold oneSq
  split
  · simp; omega
  · simp; omega
theorem hit_mem (s j : Nat) (hs8 : 8 ≤ s) (hs : s < 56) (tn : Nat) (htn : tn ≤ 1) : (j : Int) ∈ hitL (s : Int) (tn : Int) ↔ ((j : Int) = s + 9 - 16 * (tn : Int) ∧ s % 8 ≠ 7 ∧ tn = 0) ∨ ((j : Int) = s + 7 ∧ s % 8 ≠ 0 ∧ tn = 0) ∨ ((j : Int) = s - 7 ∧ s % 8 ≠ 7 ∧ tn = 1) ∨ ((j : Int) = s - 9 ∧ s % 8 ≠ 0 ∧ tn = 1) := by
  have z0 : (s % 8 = 0 ∧ atSq ((s : Int) % 8 + (2 * ((0 : Nat) : Int) - 1)) ((s : Int) / 8 + upOf (tn : Int)) = -1) ∨ (s % 8 ≠ 0 ∧ atSq ((s : Int) % 8 + (2 * ((0 : Nat) : Int) - 1)) ((s : Int) / 8 + upOf (tn : Int)) = s + 7 - 16 * (tn : Int)) := by
    unfold atSq upOf
    split <;> omega
  have z1 : (s % 8 = 7 ∧ atSq ((s : Int) % 8 + (2 * ((1 : Nat) : Int) - 1)) ((s : Int) / 8 + upOf (tn : Int)) = -1) ∨ (s % 8 ≠ 7 ∧ atSq ((s : Int) % 8 + (2 * ((1 : Nat) : Int) - 1)) ((s : Int) / 8 + upOf (tn : Int)) = s + 9 - 16 * (tn : Int)) := by
    unfold atSq upOf
    split <;> omega
  rw [hitL, hitTo, hitTo, hitTo, List.nil_append, List.mem_append, one_mem, one_mem]
  generalize atSq ((s : Int) % 8 + (2 * ((0 : Nat) : Int) - 1)) ((s : Int) / 8 + upOf (tn : Int)) = a0 at *
  generalize atSq ((s : Int) % 8 + (2 * ((1 : Nat) : Int) - 1)) ((s : Int) / 8 + upOf (tn : Int)) = a1 at *
  omega
theorem fwd_mem (p : List Int) (s j : Nat) (hs8 : 8 ≤ s) (hs : s < 56) (tn : Nat) (htn : tn ≤ 1) : (j : Int) ∈ fwdL p (s : Int) (tn : Int) ↔ pcAt p (s + 8 - 16 * (tn : Int)) = 0 ∧ ((j : Int) = s + 8 - 16 * (tn : Int) ∨ ((j : Int) = s + 16 - 32 * (tn : Int) ∧ (s : Int) / 8 = 1 + 5 * (tn : Int) ∧ pcAt p (s + 16 - 32 * (tn : Int)) = 0)) := by
  have e1 : atSq ((s : Int) % 8) ((s : Int) / 8 + upOf (tn : Int)) = s + 8 - 16 * (tn : Int) := by
    unfold atSq upOf
    rw [if_neg (by omega)]
    omega
  unfold fwdL
  rw [e1]
  by_cases h1 : pcAt p ((s : Int) + 8 - 16 * (tn : Int)) = 0
  · rw [if_pos ⟨by omega, h1⟩]
    by_cases h2 : (s : Int) / 8 = 1 + 5 * (tn : Int)
    · have e2 : atSq ((s : Int) % 8) ((s : Int) / 8 + 2 * upOf (tn : Int)) = s + 16 - 32 * (tn : Int) := by
        unfold atSq upOf
        rw [if_neg (by omega)]
        omega
      rw [e2]
      by_cases h3 : pcAt p ((s : Int) + 16 - 32 * (tn : Int)) = 0
      · rw [if_pos ⟨h2, h3⟩]
        simp [h1, h2, h3]
      · rw [if_neg (fun h => h3 h.2)]
        simp [h1, h3]
    · rw [if_neg (fun h => h2 h.1)]
      simp [h1, h2]
  · rw [if_neg (fun h => h1 h.2)]
    simp [h1]
theorem pawn_steps (p : List Int) (hp : Pos p) (tn : Nat) (htn : tn ≤ 1) (h : EpOk p tn) (s j : Nat) (hs8 : 8 ≤ s) (hs : s < 56) (hj : j < 64) (hx : pcAt p s = 6 + 6 * (tn : Int)) : occ (pawnM p tn s) j = true ↔ (j : Int) ∈ stepL p (s : Int) := by
  have hsd : sideOf (pcAt p s) = (tn : Int) := by
    rw [hx]
    unfold sideOf
    split <;> omega
  unfold stepL
  rw [hsd, List.mem_append, List.mem_filter, take_ok p hp tn htn h j hj, hit_mem s j hs8 hs tn htn, fwd_mem p s j hs8 hs tn htn]
  have hpc : ∀ q : Nat, pcAt p (q : Int) = p.getD q 0 := fun q => by simp [pcAt]
  rcases (show tn = 0 ∨ tn = 1 by omega) with rfl | rfl
  · rw [if_pos rfl]
    unfold pawnM
    rw [if_pos rfl]
    have k1 : occ ((sqBit s &&& 18374403900871474942#64 &&& 18446744073709551360#64) >>> 9) j = true ↔ j = s + 9 ∧ s % 8 ≠ 7 := by
      rw [occ_shr _ _ _ hj]
      by_cases h9 : 9 ≤ j
      · rw [occ_and, occ_and, occ_sq _ _ (by omega) (by omega), maskH _ (by omega), mask8 _ (by omega)]
        simp [h9]
        try omega
      · simp [h9]
        try omega
    have k2 : occ ((sqBit s &&& 9187201950435737471#64 &&& 18446744073709551360#64) >>> 7) j = true ↔ j = s + 7 ∧ s % 8 ≠ 0 := by
      rw [occ_shr _ _ _ hj]
      by_cases h9 : 7 ≤ j
      · rw [occ_and, occ_and, occ_sq _ _ (by omega) (by omega), maskA _ (by omega), mask8 _ (by omega)]
        simp [h9]
        try omega
      · simp [h9]
        try omega
    have k3 : ∀ i, i < 64 → (occ ((sqBit s &&& 18446744073709551360#64) >>> 8) i = true ↔ i = s + 8) := by
      intro i hi
      rw [occ_shr _ _ _ hi]
      by_cases h9 : 8 ≤ i
      · rw [occ_and, occ_sq _ _ (by omega) (by omega), mask8 _ (by omega)]
        simp [h9]
        try omega
      · simp [h9]
        try omega
    have k4 : occ (((((sqBit s &&& 18446744073709551360#64) >>> 8) &&& empB p) &&& 280375465082880#64) >>> 8) j = true ↔ j = s + 16 ∧ s / 8 = 1 ∧ p.getD (s + 8) 0 = 0 := by
      rw [occ_shr _ _ _ hj]
      by_cases h9 : 8 ≤ j
      · rw [occ_and, occ_and, mask3 _ (by omega), occ_emp p hp _ (by omega), Bool.and_eq_true, Bool.and_eq_true, Bool.and_eq_true, k3 _ (by omega)]
        simp only [decide_eq_true_eq]
        constructor
        · rintro ⟨_, ⟨a, b⟩, c⟩
          rw [a] at b
          exact ⟨by omega, by omega, b⟩
        · rintro ⟨a, b, c⟩
          have : j - 8 = s + 8 := by omega
          rw [this]
          exact ⟨h9, ⟨rfl, c⟩, by omega⟩
      · simp [h9]
        omega
    rw [occ_or, occ_or, occ_or, occ_and, occ_and, occ_and, occ_and _ (empB p), occ_emp p hp j hj]
    simp only [Bool.or_eq_true, Bool.and_eq_true, k1, k2, k3 j hj, k4, decide_eq_true_eq]
    have p8 : pcAt p ((s : Int) + 8 - 16 * ((0 : Nat) : Int)) = p.getD (s + 8) 0 := by rw [← hpc]; congr 1
    have p16 : pcAt p ((s : Int) + 16 - 32 * ((0 : Nat) : Int)) = p.getD (s + 16) 0 := by rw [← hpc]; congr 1
    rw [p8, p16]
    constructor
    · rintro (((⟨⟨a, b⟩, c⟩ | ⟨⟨a, b⟩, c⟩) | ⟨a, b⟩) | ⟨⟨a, b, c⟩, d⟩)
      · exact Or.inr ⟨Or.inl ⟨by omega, b, trivial⟩, c⟩
      · exact Or.inr ⟨Or.inr (Or.inl ⟨by omega, b, trivial⟩), c⟩
      · subst a
        exact Or.inl ⟨b, Or.inl (by omega)⟩
      · subst a
        exact Or.inl ⟨c, Or.inr ⟨by omega, by omega, d⟩⟩
    · rintro (⟨a, b | ⟨b, c, d⟩⟩ | ⟨⟨a, b, _⟩ | ⟨a, b, _⟩ | ⟨_, _, a⟩ | ⟨_, _, a⟩, c⟩)
      · have : j = s + 8 := by omega
        subst this
        exact Or.inl (Or.inr ⟨rfl, a⟩)
      · have : j = s + 16 := by omega
        subst this
        exact Or.inr ⟨⟨rfl, by omega, a⟩, d⟩
      · exact Or.inl (Or.inl (Or.inl ⟨⟨by omega, b⟩, c⟩))
      · exact Or.inl (Or.inl (Or.inr ⟨⟨by omega, b⟩, c⟩))
      · omega
      · omega
  · rw [if_neg (by decide)]
    unfold pawnM
    rw [if_neg (by decide)]
    have k1 : occ ((sqBit s &&& 18374403900871474942#64 &&& 72057594037927935#64) <<< 7) j = true ↔ j + 7 = s ∧ s % 8 ≠ 7 := by
      rw [occ_shl _ _ _ hj]
      by_cases h9 : j + 7 < 64
      · rw [occ_and, occ_and, occ_sq _ _ (by omega) (by omega), maskH _ (by omega), mask1 _ (by omega)]
        simp [h9]
        try omega
      · simp [h9]
        try omega
    have k2 : occ ((sqBit s &&& 9187201950435737471#64 &&& 72057594037927935#64) <<< 9) j = true ↔ j + 9 = s ∧ s % 8 ≠ 0 := by
      rw [occ_shl _ _ _ hj]
      by_cases h9 : j + 9 < 64
      · rw [occ_and, occ_and, occ_sq _ _ (by omega) (by omega), maskA _ (by omega), mask1 _ (by omega)]
        simp [h9]
        try omega
      · simp [h9]
        try omega
    have k3 : ∀ i, i < 64 → (occ ((sqBit s &&& 72057594037927935#64) <<< 8) i = true ↔ i + 8 = s) := by
      intro i hi
      rw [occ_shl _ _ _ hi]
      by_cases h9 : i + 8 < 64
      · rw [occ_and, occ_sq _ _ (by omega) (by omega), mask1 _ (by omega)]
        simp [h9]
        try omega
      · simp [h9]
        try omega
    have k4 : occ (((((sqBit s &&& 72057594037927935#64) <<< 8) &&& empB p) &&& 16711680#64) <<< 8) j = true ↔ j + 16 = s ∧ s / 8 = 6 ∧ p.getD (s - 8) 0 = 0 := by
      rw [occ_shl _ _ _ hj]
      by_cases h9 : j + 8 < 64
      · rw [occ_and, occ_and, mask6 _ (by omega), occ_emp p hp _ (by omega), Bool.and_eq_true, Bool.and_eq_true, Bool.and_eq_true, k3 _ (by omega)]
        simp only [decide_eq_true_eq]
        constructor
        · rintro ⟨_, ⟨a, b⟩, c⟩
          have : j + 8 = s - 8 := by omega
          rw [this] at b
          exact ⟨by omega, by omega, b⟩
        · rintro ⟨a, b, c⟩
          have : j + 8 = s - 8 := by omega
          rw [this]
          exact ⟨by omega, ⟨by omega, c⟩, by omega⟩
      · simp [h9]
        omega
    rw [occ_or, occ_or, occ_or, occ_and, occ_and, occ_and, occ_and _ (empB p), occ_emp p hp j hj]
    simp only [Bool.or_eq_true, Bool.and_eq_true, k1, k2, k3 j hj, k4, decide_eq_true_eq]
    have p8 : pcAt p ((s : Int) + 8 - 16 * ((1 : Nat) : Int)) = p.getD (s - 8) 0 := by rw [← hpc]; congr 1; omega
    have p16 : s / 8 = 6 → pcAt p ((s : Int) + 16 - 32 * ((1 : Nat) : Int)) = p.getD (s - 16) 0 := fun _ => by rw [← hpc]; congr 1; omega
    rw [p8]
    constructor
    · rintro (((⟨⟨a, b⟩, c⟩ | ⟨⟨a, b⟩, c⟩) | ⟨a, b⟩) | ⟨⟨a, b, c⟩, d⟩)
      · exact Or.inr ⟨Or.inr (Or.inr (Or.inl ⟨by omega, b, trivial⟩)), c⟩
      · exact Or.inr ⟨Or.inr (Or.inr (Or.inr ⟨by omega, b, trivial⟩)), c⟩
      · have : j = s - 8 := by omega
        rw [this] at b
        exact Or.inl ⟨b, Or.inl (by omega)⟩
      · have : j = s - 16 := by omega
        rw [this] at d
        exact Or.inl ⟨c, Or.inr ⟨by omega, by omega, by rw [p16 b]; exact d⟩⟩
    · rintro (⟨a, b | ⟨b, c, d⟩⟩ | ⟨⟨_, _, a⟩ | ⟨_, _, a⟩ | ⟨a, b, _⟩ | ⟨a, b, _⟩, c⟩)
      · have : j = s - 8 := by omega
        subst this
        exact Or.inl (Or.inr ⟨by omega, a⟩)
      · have : j = s - 16 := by omega
        have h6 : s / 8 = 6 := by omega
        rw [p16 h6] at d
        subst this
        exact Or.inr ⟨⟨by omega, h6, a⟩, d⟩
      · omega
      · omega
      · exact Or.inl (Or.inl (Or.inl ⟨⟨by omega, b⟩, c⟩))
      · exact Or.inl (Or.inl (Or.inr ⟨⟨by omega, b⟩, c⟩))
end Go.Proofs.YtnjdgooljnbebaaGreatDoor
namespace Go.Proofs.YtnjdgooljnbebaaGreatDoor
open Go Go.RowKit
set_option maxHeartbeats 8000000
set_option linter.unusedSimpArgs false
set_option linter.unusedVariables false
set_option maxRecDepth 100000

/-- The cells of a move of the package that has no parent and no position: its tags, squares, promotion. -/
def mvK (t a b pr : Int) : Array Value := #[.pointer none, .pointer none, .string ⟨#[]⟩, .string ⟨#[]⟩, .map none, .slice none 0 0, .int .u64 0, .int .u16 t, .int .i8 a, .int .i8 b, .int .i8 pr]
/-- Tags: castling on the king's and the queen's side, a capture, one in passing, check, own check. -/
structure Tg where
  ks : Bool
  qs : Bool
  cp : Bool
  ep : Bool
  ck : Bool
  own : Bool
def tgN (t : Tg) : Int := (if t.ks then 1 else 0) + (if t.qs then 2 else 0) + (if t.cp then 4 else 0) + (if t.ep then 8 else 0) + (if t.ck then 16 else 0) + (if t.own then 32 else 0)
theorem tg_and1 (t : Tg) : decide (bits .and .u16 1 (tgN t) > 0) = t.ks := by
  obtain ⟨a, b, c, d, e, f⟩ := t
  cases a <;> cases b <;> cases c <;> cases d <;> cases e <;> cases f <;> rfl
theorem tg_and2 (t : Tg) : decide (bits .and .u16 2 (tgN t) > 0) = t.qs := by
  obtain ⟨a, b, c, d, e, f⟩ := t
  cases a <;> cases b <;> cases c <;> cases d <;> cases e <;> cases f <;> rfl
theorem tg_and8 (t : Tg) : decide (bits .and .u16 8 (tgN t) > 0) = t.ep := by
  obtain ⟨a, b, c, d, e, f⟩ := t
  cases a <;> cases b <;> cases c <;> cases d <;> cases e <;> cases f <;> rfl
theorem tg_and32 (t : Tg) : decide (bits .and .u16 32 (tgN t) > 0) = t.own := by
  obtain ⟨a, b, c, d, e, f⟩ := t
  cases a <;> cases b <;> cases c <;> cases d <;> cases e <;> cases f <;> rfl
theorem tg_or1 (t : Tg) : bits .or .u16 (tgN t) 1 = tgN { t with ks := true } := by
  obtain ⟨a, b, c, d, e, f⟩ := t
  cases a <;> cases b <;> cases c <;> cases d <;> cases e <;> cases f <;> rfl
theorem tg_or2 (t : Tg) : bits .or .u16 (tgN t) 2 = tgN { t with qs := true } := by
  obtain ⟨a, b, c, d, e, f⟩ := t
  cases a <;> cases b <;> cases c <;> cases d <;> cases e <;> cases f <;> rfl
theorem tg_or4 (t : Tg) : bits .or .u16 (tgN t) 4 = tgN { t with cp := true } := by
  obtain ⟨a, b, c, d, e, f⟩ := t
  cases a <;> cases b <;> cases c <;> cases d <;> cases e <;> cases f <;> rfl
theorem tg_or8 (t : Tg) : bits .or .u16 (tgN t) 8 = tgN { t with ep := true } := by
  obtain ⟨a, b, c, d, e, f⟩ := t
  cases a <;> cases b <;> cases c <;> cases d <;> cases e <;> cases f <;> rfl
theorem tg_or16 (t : Tg) : bits .or .u16 (tgN t) 16 = tgN { t with ck := true } := by
  obtain ⟨a, b, c, d, e, f⟩ := t
  cases a <;> cases b <;> cases c <;> cases d <;> cases e <;> cases f <;> rfl
theorem tg_or32 (t : Tg) : bits .or .u16 (tgN t) 32 = tgN { t with own := true } := by
  obtain ⟨a, b, c, d, e, f⟩ := t
  cases a <;> cases b <;> cases c <;> cases d <;> cases e <;> cases f <;> rfl
/-- A move stands in block g. -/
def MvAt (g : Nat) (t a b pr : Int) (w : World) : Prop := w.heap[g]? = some (.cells (mvK t a b pr) 73 (0, 0))
theorem MvAt.c7 {g : Nat} {t a b pr : Int} {w : World} (h : MvAt g t a b pr w) : w.cell? ⟨g, 7, none⟩ = some (.int .u16 t) := cell_of_row w g 7 _ _ _ h
theorem MvAt.c8 {g : Nat} {t a b pr : Int} {w : World} (h : MvAt g t a b pr w) : w.cell? ⟨g, 8, none⟩ = some (.int .i8 a) := cell_of_row w g 8 _ _ _ h
theorem MvAt.c9 {g : Nat} {t a b pr : Int} {w : World} (h : MvAt g t a b pr w) : w.cell? ⟨g, 9, none⟩ = some (.int .i8 b) := cell_of_row w g 9 _ _ _ h
theorem MvAt.c10 {g : Nat} {t a b pr : Int} {w : World} (h : MvAt g t a b pr w) : w.cell? ⟨g, 10, none⟩ = some (.int .i8 pr) := cell_of_row w g 10 _ _ _ h
theorem MvAt.set7 {g : Nat} {t a b pr : Int} {w : World} (h : MvAt g t a b pr w) (t' : Int) : MvAt g t' a b pr (w.setCell ⟨g, 7, none⟩ (.int .u16 t')) := heap_setCell_same w g 7 _ _ _ h
theorem vc_has (g : Nat) (t a b pr n : Int) (w : World) (h : MvAt g t a b pr w) (r : Bool) (hr : decide (bits .and .u16 n t > 0) = r) :
    Calls Tryz.prog 85 #[.pointer (some ⟨g, 0, none⟩), .int .u16 n] w fun e w' => e = .returned (.bool r) ∧ w = w' := by
  have c7 := h.c7
  subst hr
  clear h
  go_enter Tryz.func85, Tryz.ntmps85
  go_wp2_with fail
  go_ret
  exact ⟨rfl, rfl⟩
theorem vc_add (g : Nat) (t a b pr n : Int) (w : World) (h : MvAt g t a b pr w) (t' : Int) (ht : bits .or .u16 t n = t') :
    Calls Tryz.prog 126 #[.pointer (some ⟨g, 0, none⟩), .int .u16 n] w fun e w' => e = .returned (.tuple #[]) ∧ w' = w.setCell ⟨g, 7, none⟩ (.int .u16 t') := by
  have c7 := h.c7
  have f7 := frozen_of_row w g 7 _ _ h
  clear h
  go_enter Tryz.func126, Tryz.ntmps126
  go_wp2_with fail
  go_end0
  exact ⟨rfl, rfl⟩
theorem vc_taken (p : List Int) (g : Nat) (s : Int) (w : World) (hg : w.heap[g]? = some (.cells (brd p) 144 (0, 0))) (h0 : 0 ≤ s) (h1 : s ≤ 63) :
    Calls Tryz.prog 145 #[.pointer (some ⟨g, 0, none⟩), .int .i8 s] w fun e w' => e = .returned (.bool (!occ (empB p) s.toNat)) ∧ w = w' := by
  have c := (cell_of_row w g 14 _ _ _ hg).trans (brd_emp p)
  clear hg
  go_enter Tryz.func145, Tryz.ntmps145
  go_wp2_with (go_at_call 106; refine (sq_occupied _ s _ h0 h1).mono ?_; rintro e1 w1 ⟨rfl, rfl⟩)
  go_ret
  exact ⟨rfl, rfl⟩
/-- A number of 64 bits into a cell. -/
@[go_sem] theorem run_store_bbv (P : Program) (w : World) (a : Addr) (m : Mode) (x : BitVec 64) : (store a (bbv x) m).run P w = stored P w a (bbv x) m := run_store P w a _ m rfl
@[go_sem ↓] theorem cells_bbv (x : BitVec 64) : (bbv x).cells = #[bbv x] := rfl
@[go_sem] theorem run_storeBB {P : Program} (W : World) (a : Addr) (x : BitVec 64) : Sem.run P (storeCells a [bbv x]) W = stored P W a (bbv x) .plain := by
  have e : a.add 0 = a := by unfold Addr.add; rfl
  simp [storeCells, e, run_store_bbv]
end Go.Proofs.YtnjdgooljnbebaaGreatDoor
