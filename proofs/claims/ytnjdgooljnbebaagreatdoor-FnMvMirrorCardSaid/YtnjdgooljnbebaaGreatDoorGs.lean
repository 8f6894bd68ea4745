/- What stands behind a move: the entries of the engine's list, the text of the rights, the square behind a pawn, the numbers, and that the position is sound. The plain law.
A position seen from the other side: squares, pieces, what attacks what, where pieces go. The plain law.
A position seen from the other side: who attacks what, what stands behind a move, which moves are legal. The plain law.
A position seen from the other side: its legal moves are the legal moves seen so. The plain law.
A position seen from the other side: its legal moves are the legal moves seen so, and its status is the same. The plain law. -/
import Derived.Test.YtnjdgooljnbebaaGreatDoorGr
import Derived.Test.YtnjdgooljnbebaaGreatDoorGn
import Derived.Test.YtnjdgooljnbebaaGreatDoorGm
namespace Go.Proofs.YtnjdgooljnbebaaGreatDoor
open Go Go.RowKit
set_option maxHeartbeats 8000000
set_option linter.unusedSimpArgs false
set_option linter.unusedVariables false
set_option maxRecDepth 100000

/-- What holds of an entry of the engine's list. -/
structure EntOk (p : List Int) (tn : Nat) (x : Mv × Tg) : Prop where
  good : GoodM p tn x.1
  king : kindOf (pcAt p x.1.2) ≠ 1
  ep : x.2.ep = passM p x.1
  ks : x.2.ks = (castM p x.1 && decide (x.1.2 = x.1.fr + 2))
  qs : x.2.qs = (castM p x.1 && decide (x.1.2 = x.1.fr - 2))
  cp : x.2.cp = decide (pcAt p x.1.2 ≠ 0)
/-! The rights. -/
theorem king_only (p : List Int) (c : Nat) (hc : cnt p (1 + 6 * (c : Int)) 64 = 1) (i j : Nat) (hi : i < 64) (hj : j < 64) (h : p.getD i 0 = 1 + 6 * (c : Int)) : p.getD j 0 = 1 + 6 * (c : Int) ↔ j = i :=
  ⟨fun h2 => cnt_one p _ 64 hc j i hj hi h2 h, fun h2 => by rw [h2]; exact h⟩
theorem Sound.cnt_k {p : List Int} {tn : Nat} (h : Sound p tn) (c : Nat) (hc : c ≤ 1) : cnt p (1 + 6 * (c : Int)) 64 = 1 := by
  rcases (show c = 0 ∨ c = 1 by omega) with rfl | rfl
  · exact h.n1
  · exact h.n7
/-! The other numbers. -/
theorem set_off (l : List Int) (i j : Nat) (z : Int) (h : i ≠ j) : (l.set i z).getD j 0 = l.getD j 0 := by rw [getD_set, if_neg (fun e => h e.1)]
theorem set_on (l : List Int) (i : Nat) (z : Int) (h : i < l.length) : (l.set i z).getD i 0 = z := by rw [getD_set, if_pos ⟨rfl, h⟩]
theorem cnt_uniq (q : List Int) (K : Int) (k : Nat) (h : ∀ j, j < 64 → (q.getD j 0 = K ↔ j = k)) : ∀ n, n ≤ 64 → cnt q K n = if k < n then 1 else 0
  | 0, _ => by simp [cnt]
  | n + 1, hn => by
    have ih := cnt_uniq q K k h n (by omega)
    by_cases hk : n = k
    · rw [cnt_yes q K n ((h n (by omega)).2 hk), ih, if_neg (by omega), if_pos (by omega)]
    · rw [cnt_no q K n (fun e => hk ((h n (by omega)).1 e)), ih]
      by_cases h1 : k < n
      · rw [if_pos h1, if_pos (by omega)]
      · rw [if_neg h1, if_neg (by omega)]
end Go.Proofs.YtnjdgooljnbebaaGreatDoor
namespace Go.Proofs.YtnjdgooljnbebaaGreatDoor
open Go Go.RowKit
set_option maxHeartbeats 8000000
set_option linter.unusedSimpArgs false
set_option linter.unusedVariables false
set_option maxRecDepth 100000

def fl (s : Int) : Int := s % 8 + 8 * (7 - s / 8)
def flN (s : Nat) : Nat := s % 8 + 8 * (7 - s / 8)
theorem fl_nat (s : Nat) (h : s < 64) : fl (s : Int) = (flN s : Nat) := by unfold fl flN; omega
theorem flN_lt (s : Nat) (h : s < 64) : flN s < 64 := by unfold flN; omega
theorem flN_fl (s : Nat) (h : s < 64) : flN (flN s) = s := by unfold flN; omega
theorem fl_range (s : Int) (h0 : 0 ≤ s) (h1 : s ≤ 63) : 0 ≤ fl s ∧ fl s ≤ 63 := by unfold fl; omega
theorem fl_fl (s : Int) (h0 : 0 ≤ s) (h1 : s ≤ 63) : fl (fl s) = s := by unfold fl; omega
theorem fl_f (s : Int) : fl s % 8 = s % 8 := by unfold fl; omega
theorem fl_r (s : Int) : fl s / 8 = 7 - s / 8 := by unfold fl; omega
theorem fl_inj (s t : Int) : fl s = fl t ↔ s = t := by unfold fl; omega
def tz (x : Int) : Int := if x > 6 then x - 6 else if x > 0 then x + 6 else x
theorem tz_0 (x : Int) (h : 0 ≤ x) : tz x = 0 ↔ x = 0 := by unfold tz; split <;> (try split) <;> omega
theorem tz_kind (x : Int) (h0 : 0 ≤ x) (h1 : x ≤ 12) : kindOf (tz x) = kindOf x := by unfold tz kindOf; split <;> (try split) <;> (try split) <;> omega
theorem tz_side (x : Int) (h0 : 0 < x) (h1 : x ≤ 12) : sideOf (tz x) = 1 - sideOf x := by unfold tz sideOf; split <;> (try split) <;> (try split) <;> omega
theorem tz_tz (x : Int) (h0 : 0 ≤ x) (h1 : x ≤ 12) : tz (tz x) = x := by unfold tz; split <;> (try split) <;> (try split) <;> omega
theorem tz_range (x : Int) (h0 : 0 ≤ x) (h1 : x ≤ 12) : 0 ≤ tz x ∧ tz x ≤ 12 := by unfold tz; split <;> (try split) <;> omega
theorem tz_of (k c : Int) (h0 : 1 ≤ k) (h1 : k ≤ 6) (c0 : 0 ≤ c) (c1 : c ≤ 1) : tz (k + 6 * c) = k + 6 * (1 - c) := by unfold tz; split <;> (try split) <;> omega
/-- Two boards, one seen from the other side. -/
def Sq (l l' : List Int) : Prop := ∀ s : Nat, s < 64 → l'.getD (flN s) 0 = tz (l.getD s 0)
structure Mir (p q : List Int) : Prop where
  len : q.length = 69
  sq : Sq p q
  turn : q.getD 64 0 = 1 - p.getD 64 0
  cas : q.getD 65 0 = p.getD 65 0 / 4 + 4 * (p.getD 65 0 % 4)
  ep : q.getD 66 0 = if p.getD 66 0 < 0 then p.getD 66 0 else fl (p.getD 66 0)
  hf : q.getD 67 0 = p.getD 67 0
  fu : q.getD 68 0 = p.getD 68 0
theorem Sq.pc {l l' : List Int} (h : Sq l l') (s : Int) (h0 : 0 ≤ s) (h1 : s ≤ 63) : pcAt l' (fl s) = tz (pcAt l s) := by
  have := h s.toNat (by omega)
  have e : fl s = (flN s.toNat : Nat) := by rw [← fl_nat _ (by omega), Int.toNat_of_nonneg h0]
  rw [e, pcAt_nat, this]
  rfl
theorem Sq.back {l l' : List Int} (h : Sq l l') (hp : Pos l) : Sq l' l := by
  intro s hs
  have h1 := h (flN s) (flN_lt s hs)
  rw [flN_fl s hs] at h1
  rw [h1, tz_tz _ (hp.lo _ (flN_lt s hs)) (hp.hi _ (flN_lt s hs))]
theorem Sq.pos {l l' : List Int} (h : Sq l l') (hp : Pos l) (hl : l'.length = 69) : Pos l' := by
  refine ⟨hl, fun s hs => ?_, fun s hs => ?_⟩
  all_goals
    have h1 := h (flN s) (flN_lt s hs)
    rw [flN_fl s hs] at h1
    rw [h1]
  · exact (tz_range _ (hp.lo _ (flN_lt s hs)) (hp.hi _ (flN_lt s hs))).1
  · exact (tz_range _ (hp.lo _ (flN_lt s hs)) (hp.hi _ (flN_lt s hs))).2
theorem Pos.at0 {p : List Int} (hp : Pos p) (s : Int) (h0 : 0 ≤ s) (h1 : s ≤ 63) : 0 ≤ pcAt p s ∧ pcAt p s ≤ 12 := ⟨hp.lo _ (by omega), hp.hi _ (by omega)⟩
/-! Where pieces go. -/
theorem atSq_fl (f r : Int) : atSq f (7 - r) = if atSq f r < 0 then -1 else fl (atSq f r) := by
  unfold atSq fl
  split <;> split <;> (try split) <;> omega
theorem ray_fl {p q : List Int} (h : Sq p q) (hp : Pos p) (far : Bool) (f r df dr : Int) : ∀ m n, ray (pcAt q) far f (7 - r) df (-dr) n m = (ray (pcAt p) far f r df dr n m).map fl
  | 0, n => rfl
  | m + 1, n => by
    have e : (7 - r) + (n : Int) * (-dr) = 7 - (r + (n : Int) * dr) := by rw [Int.mul_neg]; omega
    have ih := ray_fl h hp far f r df dr m (n + 1)
    unfold ray
    rw [e, atSq_fl, ih]
    have hr := atSq_range (f + (n : Int) * df) (r + (n : Int) * dr)
    generalize atSq (f + (n : Int) * df) (r + (n : Int) * dr) = t at *
    by_cases h0 : t < 0
    · rw [if_pos h0, if_pos (by omega), if_pos h0]
      rfl
    · have hfr := fl_range t (by omega) (by omega)
      rw [if_neg h0, if_neg (by omega), if_neg h0]
      have hpc := h.pc t (by omega) (by omega)
      have hz := tz_0 (pcAt p t) (hp.at0 t (by omega) (by omega)).1
      have hc : (far = false ∨ pcAt q (fl t) ≠ 0) ↔ (far = false ∨ pcAt p t ≠ 0) := by rw [hpc, ne_eq, hz]
      by_cases h1 : far = false ∨ pcAt p t ≠ 0
      · rw [if_pos (hc.2 h1), if_pos h1]
        rfl
      · rw [if_neg (fun x => h1 (hc.1 x)), if_neg h1]
        rfl
def negW : List Int → List Int
  | df :: dr :: l => df :: (-dr) :: negW l
  | _ => []
theorem rays_fl {p q : List Int} (h : Sq p q) (hp : Pos p) (far : Bool) (f r : Int) : ∀ l : List Int, rays (pcAt q) far f (7 - r) (negW l) = (rays (pcAt p) far f r l).map fl
  | [] => rfl
  | [_] => rfl
  | df :: dr :: l => by
    have ih := rays_fl h hp far f r l
    show ray (pcAt q) far f (7 - r) df (-dr) 1 7 ++ rays (pcAt q) far f (7 - r) (negW l) = List.map fl (ray (pcAt p) far f r df dr 1 7 ++ rays (pcAt p) far f r l)
    rw [ih, ray_fl h hp, List.map_append]
theorem neg_ways (B : Int → Int) (far : Bool) (f r k x : Int) : x ∈ rays B far f r (negW (waysL k)) ↔ x ∈ rays B far f r (waysL k) := by
  have h1 : negW (straightL ++ slantingL) = [0, -1, 1, 0, 0, 1, -1, 0, 1, -1, 1, 1, -1, 1, -1, -1] := by decide
  have h2 : negW straightL = [0, -1, 1, 0, 0, 1, -1, 0] := by decide
  have h3 : negW slantingL = [1, -1, 1, 1, -1, 1, -1, -1] := by decide
  have h4 : negW jumpsL = [1, -2, 2, -1, 2, 1, 1, 2, -1, 2, -2, 1, -2, -1, -1, -2] := by decide
  unfold waysL
  split
  · rw [h1]
    simp only [straightL, slantingL, rays, List.cons_append, List.nil_append, List.mem_append, List.not_mem_nil, or_false]
    grind
  · split
    · rw [h2]
      simp only [straightL, rays, List.mem_append, List.not_mem_nil, or_false]
      grind
    · split
      · rw [h3]
        simp only [slantingL, rays, List.mem_append, List.not_mem_nil, or_false]
        grind
      · rw [h4]
        simp only [jumpsL, rays, List.mem_append, List.not_mem_nil, or_false]
        grind
theorem reach_fl {p q : List Int} (h : Sq p q) (hp : Pos p) (s y : Int) (h0 : 0 ≤ s) (h1 : s ≤ 63) (hy : y ∈ reach p s) : fl y ∈ reach q (fl s) := by
  unfold reach at hy ⊢
  have hpc := h.pc s h0 h1
  have hr := hp.at0 s h0 h1
  rw [hpc, tz_kind _ hr.1 hr.2, fl_f, fl_r, ← neg_ways, rays_fl h hp]
  exact List.mem_map_of_mem hy
theorem up_neg (c : Int) : upOf (1 - c) = -upOf c := by unfold upOf; omega
theorem hitTo_fl (s c : Int) : ∀ n, hitTo (fl s) (1 - c) n = (hitTo s c n).map fl
  | 0 => rfl
  | n + 1 => by
    unfold hitTo
    rw [hitTo_fl s c n, List.map_append, fl_f, fl_r, up_neg]
    have e : 7 - s / 8 + -upOf c = 7 - (s / 8 + upOf c) := by omega
    rw [e, atSq_fl]
    have hr := atSq_range (s % 8 + (2 * (n : Int) - 1)) (s / 8 + upOf c)
    generalize atSq (s % 8 + (2 * (n : Int) - 1)) (s / 8 + upOf c) = t at *
    unfold oneSq
    by_cases h0 : t < 0
    · rw [if_pos h0, if_neg (by omega), if_neg (by omega)]
      rfl
    · have := fl_range t (by omega) (by omega)
      rw [if_neg h0, if_pos (by omega), if_pos (by omega)]
      rfl
theorem hitTo_in (s c : Int) : ∀ n, ∀ t ∈ hitTo s c n, 0 ≤ t ∧ t ≤ 63
  | 0, t, h => by cases h
  | n + 1, t, h => by
    unfold hitTo at h
    rcases List.mem_append.1 h with h | h
    · exact hitTo_in s c n t h
    · have hr := atSq_range (s % 8 + (2 * (n : Int) - 1)) (s / 8 + upOf c)
      unfold oneSq at h
      split at h
      · rw [List.mem_singleton] at h
        omega
      · cases h
theorem take_fl {p q : List Int} (h : Mir p q) (hp : Pos p) (hep : -1 ≤ p.getD 66 0 ∧ p.getD 66 0 ≤ 63) (c t : Int) (c0 : 0 ≤ c) (c1 : c ≤ 1) (h0 : 0 ≤ t) (h1 : t ≤ 63) : takeOk q (1 - c) (fl t) = takeOk p c t := by
  have hpc := h.sq.pc t h0 h1
  have hr := hp.at0 t h0 h1
  have hz := tz_0 (pcAt p t) hr.1
  unfold takeOk
  rw [hpc, fl_r, h.ep]
  have e1 : decide (tz (pcAt p t) ≠ 0) = decide (pcAt p t ≠ 0) := by simp only [ne_eq, hz]
  have e2 : decide (tz (pcAt p t) = 0) = decide (pcAt p t = 0) := by simp only [hz]
  have e3 : decide (7 - t / 8 = 5 - 3 * (1 - c)) = decide (t / 8 = 5 - 3 * c) := by
    rw [Bool.eq_iff_iff, decide_eq_true_eq, decide_eq_true_eq]
    omega
  have e4 : decide (fl t = if p.getD 66 0 < 0 then p.getD 66 0 else fl (p.getD 66 0)) = decide (t = p.getD 66 0) := by
    rw [Bool.eq_iff_iff, decide_eq_true_eq, decide_eq_true_eq]
    have := fl_range t h0 h1
    split
    · omega
    · exact fl_inj _ _
  rw [e1, e2, e3, e4]
  by_cases hx : pcAt p t = 0
  · simp [hx]
  · have hs := tz_side (pcAt p t) (by omega) hr.2
    have e5 : decide (sideOf (tz (pcAt p t)) ≠ 1 - c) = decide (sideOf (pcAt p t) ≠ c) := by
      rw [Bool.eq_iff_iff, decide_eq_true_eq, decide_eq_true_eq, hs]
      omega
    rw [e5]
theorem fwd_fl {p q : List Int} (h : Sq p q) (hp : Pos p) (s c : Int) (c0 : 0 ≤ c) (c1 : c ≤ 1) : fwdL q (fl s) (1 - c) = (fwdL p s c).map fl := by
  unfold fwdL
  rw [fl_f, fl_r, up_neg]
  have e1 : 7 - s / 8 + -upOf c = 7 - (s / 8 + upOf c) := by omega
  have e2 : 7 - s / 8 + 2 * -upOf c = 7 - (s / 8 + 2 * upOf c) := by omega
  rw [e1, e2, atSq_fl, atSq_fl]
  have r1 := atSq_range (s % 8) (s / 8 + upOf c)
  have r2 := atSq_range (s % 8) (s / 8 + 2 * upOf c)
  have hrow : s / 8 = 1 + 5 * c → 0 ≤ atSq (s % 8) (s / 8 + 2 * upOf c) := by
    intro hr
    unfold atSq upOf
    rw [hr, if_neg (by omega)]
    omega
  generalize atSq (s % 8) (s / 8 + upOf c) = t1 at *
  generalize atSq (s % 8) (s / 8 + 2 * upOf c) = t2 at *
  have cA : (0 ≤ (if t1 < 0 then -1 else fl t1) ∧ pcAt q (if t1 < 0 then -1 else fl t1) = 0) ↔ (0 ≤ t1 ∧ pcAt p t1 = 0) := by
    by_cases h0 : t1 < 0
    · rw [if_pos h0]
      constructor
      · intro e
        have := e.1
        omega
      · intro e
        have := e.1
        omega
    · have hf1 := fl_range t1 (by omega) (by omega)
      have hpc1 := h.pc t1 (by omega) (by omega)
      have hz1 := tz_0 (pcAt p t1) (hp.at0 t1 (by omega) (by omega)).1
      rw [if_neg h0, hpc1, hz1]
      constructor
      · intro e
        exact ⟨by omega, e.2⟩
      · intro e
        exact ⟨hf1.1, e.2⟩
  have cB : (7 - s / 8 = 1 + 5 * (1 - c) ∧ pcAt q (if t2 < 0 then -1 else fl t2) = 0) ↔ (s / 8 = 1 + 5 * c ∧ pcAt p t2 = 0) := by
    by_cases hr : s / 8 = 1 + 5 * c
    · have h2 := hrow hr
      have hpc2 := h.pc t2 h2 (by omega)
      have hz2 := tz_0 (pcAt p t2) (hp.at0 t2 h2 (by omega)).1
      rw [if_neg (by omega), hpc2, hz2]
      constructor
      · intro e
        exact ⟨hr, e.2⟩
      · intro e
        exact ⟨by omega, e.2⟩
    · constructor
      · intro e
        have := e.1
        omega
      · intro e
        exact absurd e.1 hr
  by_cases hA : 0 ≤ t1 ∧ pcAt p t1 = 0
  · rw [if_pos (cA.2 hA), if_pos hA]
    by_cases hB : s / 8 = 1 + 5 * c ∧ pcAt p t2 = 0
    · have h2 := hrow hB.1
      rw [if_pos (cB.2 hB), if_pos hB, if_neg (show ¬ t1 < 0 by omega), if_neg (show ¬ t2 < 0 by omega)]
      rfl
    · rw [if_neg (fun e => hB (cB.1 e)), if_neg hB, if_neg (show ¬ t1 < 0 by omega)]
      rfl
  · rw [if_neg (fun e => hA (cA.1 e)), if_neg hA]
    rfl
theorem step_fl {p q : List Int} (h : Mir p q) (hp : Pos p) (hep : -1 ≤ p.getD 66 0 ∧ p.getD 66 0 ≤ 63) (s y : Int) (h0 : 0 ≤ s) (h1 : s ≤ 63) (hx : pcAt p s ≠ 0) (hy : y ∈ stepL p s) : fl y ∈ stepL q (fl s) := by
  have hr := hp.at0 s h0 h1
  have hpc := h.sq.pc s h0 h1
  have hs := tz_side (pcAt p s) (by omega) hr.2
  have hc : 0 ≤ sideOf (pcAt p s) ∧ sideOf (pcAt p s) ≤ 1 := by unfold sideOf; split <;> omega
  unfold stepL at hy ⊢
  rw [hpc, hs, fwd_fl h.sq hp s _ hc.1 hc.2]
  rcases List.mem_append.1 hy with hy | hy
  · exact List.mem_append.2 (Or.inl (List.mem_map_of_mem hy))
  · refine List.mem_append.2 (Or.inr ?_)
    rw [List.mem_filter] at hy ⊢
    have hin := hitTo_in s _ 2 y hy.1
    refine ⟨?_, ?_⟩
    · unfold hitL
      rw [hitTo_fl]
      exact List.mem_map_of_mem hy.1
    · rw [take_fl h hp hep _ y hc.1 hc.2 hin.1 hin.2]
      exact hy.2
theorem goes_fl {p q : List Int} (h : Mir p q) (hp : Pos p) (hep : -1 ≤ p.getD 66 0 ∧ p.getD 66 0 ≤ 63) (tn a b : Nat) (htn : tn ≤ 1) (ha : a < 64) (hb : b < 64) (hg : Goes p tn a b) : Goes q (1 - tn) (flN a) (flN b) := by
  have hpa := h.sq a ha
  have hpb := h.sq b hb
  have hxa := hp.lo a ha
  have hxb := hp.lo b hb
  have hyb := hp.hi b hb
  have e : ((1 - tn : Nat) : Int) = 1 - (tn : Int) := by omega
  obtain ⟨x0, x1, mem, free⟩ := hg
  have hka : kindOf (pcAt q (fl (a : Int))) = kindOf (pcAt p (a : Int)) := by
    rw [h.sq.pc a (by omega) (by omega), tz_kind _ (hp.at0 a (by omega) (by omega)).1 (hp.at0 a (by omega) (by omega)).2]
  refine ⟨?_, ?_, ?_, ?_⟩
  · rw [hpa, e]
    unfold tz
    split <;> (try split) <;> omega
  · rw [hpa, e]
    unfold tz
    split <;> (try split) <;> omega
  · rw [← fl_nat a ha, ← fl_nat b hb]
    unfold sqL at mem ⊢
    rw [hka]
    split
    · rename_i hk
      rw [if_pos hk] at mem
      exact step_fl h hp hep a b (by omega) (by omega) (by show p.getD a 0 ≠ 0; omega) mem
    · rename_i hk
      rw [if_neg hk] at mem
      exact reach_fl h.sq hp a b (by omega) (by omega) mem
  · rw [hpb, e]
    unfold tz
    intro hh
    apply free
    split at hh <;> (try split at hh) <;> omega
end Go.Proofs.YtnjdgooljnbebaaGreatDoor
namespace Go.Proofs.YtnjdgooljnbebaaGreatDoor
open Go Go.RowKit
set_option maxHeartbeats 8000000
set_option linter.unusedSimpArgs false
set_option linter.unusedVariables false
set_option maxRecDepth 100000

set_option maxRecDepth 1000000 in
theorem back_fl : ∀ s < 64, ∀ j < 64, (decide (j ≠ s) && (inLine (j : Nat) (s : Nat) || inSlant (j : Nat) (s : Nat))) = true → backL ((flN j : Nat) : Int) ((flN s : Nat) : Int) = (backL (j : Nat) (s : Nat)).map fl := by decide +kernel
theorem line_fl (j s : Nat) (hj : j < 64) (hs : s < 64) : inLine ((flN j : Nat) : Int) ((flN s : Nat) : Int) = inLine (j : Int) (s : Int) := by
  unfold inLine
  rw [Bool.eq_iff_iff]
  simp only [Bool.or_eq_true, decide_eq_true_eq]
  unfold flN
  omega
theorem slant_fl (j s : Nat) (hj : j < 64) (hs : s < 64) : inSlant ((flN j : Nat) : Int) ((flN s : Nat) : Int) = inSlant (j : Int) (s : Int) := by
  unfold inSlant
  rw [Bool.eq_iff_iff]
  simp only [Bool.or_eq_true, decide_eq_true_eq]
  unfold flN
  omega
theorem sees_fl {p q : List Int} (h : Sq p q) (hp : Pos p) (j s : Nat) (hj : j < 64) (hs : s < 64) (hne : j ≠ s) (hl : (inLine (j : Int) (s : Int) || inSlant (j : Int) (s : Int)) = true) (hh : seesB p j s = true) : seesB q (flN j : Nat) (flN s : Nat) = true := by
  have hg : (decide (j ≠ s) && (inLine (j : Nat) (s : Nat) || inSlant (j : Nat) (s : Nat))) = true := by rw [decide_eq_true hne, Bool.true_and]; exact hl
  have hin := back_in s hs j hj hg
  have hm := back_fl s hs j hj hg
  unfold seesB at hh ⊢
  rw [clear_runL] at hh ⊢
  intro x hx
  have hx' : x ∈ backL ((flN j : Nat) : Int) ((flN s : Nat) : Int) := hx
  rw [hm] at hx'
  obtain ⟨y, hy, rfl⟩ := List.mem_map.1 hx'
  have hb := List.all_eq_true.1 hin y hy
  rw [Bool.and_eq_true, decide_eq_true_eq, decide_eq_true_eq] at hb
  rw [h.pc y hb.1 hb.2, tz_0 _ (hp.at0 y hb.1 hb.2).1]
  exact hh y hy
theorem fl_ne (j s : Nat) (hj : j < 64) (hs : s < 64) : flN j ≠ flN s ↔ j ≠ s := by unfold flN; omega
theorem sees_iff {p q : List Int} (h : Sq p q) (hp : Pos p) (hq : Pos q) (j s : Nat) (hj : j < 64) (hs : s < 64) (hne : j ≠ s) (hl : (inLine (j : Int) (s : Int) || inSlant (j : Int) (s : Int)) = true) : seesB q (flN j : Nat) (flN s : Nat) = seesB p j s := by
  rw [Bool.eq_iff_iff]
  refine ⟨fun hh => ?_, sees_fl h hp j s hj hs hne hl⟩
  have := sees_fl (h.back hp) hq (flN j) (flN s) (flN_lt j hj) (flN_lt s hs) ((fl_ne j s hj hs).2 hne) (by rw [line_fl j s hj hs, slant_fl j s hj hs]; exact hl) hh
  rwa [flN_fl j hj, flN_fl s hs] at this
theorem hits_fl {p q : List Int} (h : Sq p q) (hp : Pos p) (hq : Pos q) (j s t c : Nat) (hj : j < 64) (hs : s < 64) (ht : t < 6) (hc : c ≤ 1) (hx : p.getD j 0 = (t : Int) + 6 * (c : Int) + 1) : hitsB q (flN j : Nat) (flN s : Nat) = hitsB p j s := by
  have e : ((1 - c : Nat) : Int) = 1 - (c : Int) := by omega
  have hxq : q.getD (flN j) 0 = (t : Int) + 6 * ((1 - c : Nat) : Int) + 1 := by
    rw [h j hj, hx, e]
    have := tz_of ((t : Int) + 1) c (by omega) (by omega) (by omega) (by omega)
    rw [show (t : Int) + 6 * (c : Int) + 1 = (t : Int) + 1 + 6 * (c : Int) by omega, this]
    omega
  rw [hits_kind p s j t c ht hc hx, hits_kind q (flN s) (flN j) t (1 - c) ht (by omega) hxq]
  by_cases hne : j = s
  · subst hne
    simp
  rw [decide_eq_true hne, decide_eq_true ((fl_ne j s hj hs).2 hne), Bool.true_and, Bool.true_and]
  have f1 : ((flN s : Nat) : Int) % 8 - ((flN j : Nat) : Int) % 8 = (s : Int) % 8 - (j : Int) % 8 := by unfold flN; omega
  have f2 : ((flN s : Nat) : Int) / 8 - ((flN j : Nat) : Int) / 8 = -((s : Int) / 8 - (j : Int) / 8) := by unfold flN; omega
  rw [f1, f2, Int.neg_mul_neg, line_fl j s hj hs, slant_fl j s hj hs]
  have hsee : (inLine (j : Int) (s : Int) || inSlant (j : Int) (s : Int)) = true → seesB q (flN j : Nat) (flN s : Nat) = seesB p j s := sees_iff h hp hq j s hj hs hne
  rcases (show t = 0 ∨ t = 1 ∨ t = 2 ∨ t = 3 ∨ t = 4 ∨ t = 5 by omega) with rfl | rfl | rfl | rfl | rfl | rfl
  · simp
  · cases h1 : inLine (j : Int) (s : Int) <;> cases h2 : inSlant (j : Int) (s : Int) <;> simp [h1, h2] at hsee ⊢ <;> exact hsee
  · cases h1 : inLine (j : Int) (s : Int) <;> simp [h1] at hsee ⊢ <;> exact hsee
  · cases h2 : inSlant (j : Int) (s : Int) <;> simp [h2] at hsee ⊢ <;> exact hsee
  · simp
  · simp only [show ¬ ((5 : Nat) = 0) by decide, if_false, show ¬ ((5 : Nat) = 1) by decide, show ¬ ((5 : Nat) = 2) by decide, show ¬ ((5 : Nat) = 3) by decide, show ¬ ((5 : Nat) = 4) by decide]
    have e3 : decide (-((s : Int) / 8 - (j : Int) / 8) = upOf ((1 - c : Nat) : Int)) = decide ((s : Int) / 8 - (j : Int) / 8 = upOf (c : Int)) := by
      rw [Bool.eq_iff_iff, decide_eq_true_eq, decide_eq_true_eq, e]
      unfold upOf
      omega
    rw [e3]
theorem att_fl1 {p q : List Int} (h : Sq p q) (hp : Pos p) (hq : Pos q) (s c : Nat) (hs : s < 64) (hc : c ≤ 1) (ha : attackedB p (s : Int) (c : Int) = true) : attackedB q (flN s : Nat) ((1 - c : Nat) : Int) = true := by
  obtain ⟨j, t, hj, ht, hx, hh⟩ := (att_iff p hp c hc s).1 ha
  refine (att_iff q hq (1 - c) (by omega) (flN s)).2 ⟨flN j, t, flN_lt j hj, ht, ?_, ?_⟩
  · rw [h j hj, hx, show (t : Int) + 6 * (c : Int) + 1 = (t : Int) + 1 + 6 * (c : Int) by omega, tz_of ((t : Int) + 1) c (by omega) (by omega) (by omega) (by omega)]
    omega
  · rw [hits_fl h hp hq j s t c hj hs ht hc hx]
    exact hh
theorem att_fl {p q : List Int} (h : Sq p q) (hp : Pos p) (hq : Pos q) (s c : Int) (h0 : 0 ≤ s) (h1 : s ≤ 63) (c0 : 0 ≤ c) (c1 : c ≤ 1) : attackedB q (fl s) (1 - c) = attackedB p s c := by
  obtain ⟨s, rfl⟩ : ∃ n : Nat, s = (n : Int) := ⟨s.toNat, by omega⟩
  obtain ⟨c, rfl⟩ : ∃ n : Nat, c = (n : Int) := ⟨c.toNat, by omega⟩
  have e : ((1 - c : Nat) : Int) = 1 - (c : Int) := by omega
  rw [fl_nat s (by omega), ← e, Bool.eq_iff_iff]
  refine ⟨fun ha => ?_, att_fl1 h hp hq s c (by omega) (by omega)⟩
  have := att_fl1 (h.back hp) hq hp (flN s) (1 - c) (flN_lt s (by omega)) (by omega) ha
  rwa [flN_fl s (by omega), show 1 - (1 - c) = c by omega] at this
/-! Kings. -/
theorem cnt_fl {p q : List Int} (h : Sq p q) (hp : Pos p) (hq : Pos q) (c : Nat) (hc : c ≤ 1) (h1 : cnt p (1 + 6 * (c : Int)) 64 = 1) : cnt q (1 + 6 * ((1 - c : Nat) : Int)) 64 = 1 ∧ kingAt q ((1 - c : Nat) : Int) = fl (kingAt p (c : Int)) := by
  obtain ⟨j, hl, hk, hj, hkk⟩ := king_both p (c : Int) h1
  have e : ((1 - c : Nat) : Int) = 1 - (c : Int) := by omega
  have hu : ∀ i, i < 64 → (q.getD i 0 = 1 + 6 * ((1 - c : Nat) : Int) ↔ i = flN j) := by
    intro i hi
    have hb := h.back hp (flN j) (flN_lt j hj)
    have hi2 := h (flN i) (flN_lt i hi)
    rw [flN_fl i hi] at hi2
    have hlo := hp.lo _ (flN_lt i hi)
    have hhi := hp.hi _ (flN_lt i hi)
    have hone := king_only p c h1 j (flN i) hj (flN_lt i hi) hkk
    rw [hi2, e]
    constructor
    · intro hx
      have : p.getD (flN i) 0 = 1 + 6 * (c : Int) := by
        unfold tz at hx
        split at hx <;> (try split at hx) <;> omega
      rw [← hone.1 this, flN_fl i hi]
    · intro hx
      subst hx
      rw [hone.2 (flN_fl j hj)]
      exact tz_of 1 c (by omega) (by omega) (by omega) (by omega)
  have hc1 : cnt q (1 + 6 * ((1 - c : Nat) : Int)) 64 = 1 := by
    rw [cnt_uniq _ _ _ hu 64 (Nat.le_refl _), if_pos (flN_lt j hj)]
  refine ⟨hc1, ?_⟩
  obtain ⟨i, _, hk2, hi, hkk2⟩ := king_both q ((1 - c : Nat) : Int) hc1
  rw [hk2, hk, fl_nat j hj, (hu i hi).1 hkk2]
/-! What stands behind a move. -/
def flm (m : Mv) : Mv := ⟨fl m.1, fl m.2, m.3⟩
theorem Sq.set {l l' : List Int} (h : Sq l l') (hl : l.length = 69) (hl' : l'.length = 69) (i z : Int) (h0 : 0 ≤ i) (h1 : i ≤ 63) : Sq (l.set i.toNat z) (l'.set (fl i).toNat (tz z)) := by
  intro s hs
  have hf := fl_range i h0 h1
  have hlt := flN_lt s hs
  have hfs := fl_nat s hs
  rw [getD_set, getD_set, hl, hl']
  by_cases e : i.toNat = s
  · have e1 : i = (s : Int) := by omega
    have e2 : (fl i).toNat = flN s := by rw [e1, hfs, Int.toNat_natCast]
    rw [if_pos ⟨e2, by omega⟩, if_pos ⟨e, by omega⟩]
  · have e2 : ¬ (fl i).toNat = flN s := by
      intro hx
      apply e
      have : fl i = fl (s : Int) := by rw [hfs]; omega
      have := (fl_inj i s).1 this
      omega
    rw [if_neg (fun x => e2 x.1), if_neg (fun x => e x.1)]
    exact h s hs
theorem tz00 : tz 0 = 0 := by decide
end Go.Proofs.YtnjdgooljnbebaaGreatDoor
namespace Go.Proofs.YtnjdgooljnbebaaGreatDoor
open Go Go.RowKit
set_option maxHeartbeats 8000000
set_option linter.unusedSimpArgs false
set_option linter.unusedVariables false
set_option maxRecDepth 100000

theorem made_fl {p q : List Int} (h : Mir p q) (hp : Pos p) (tn : Nat) (htn : tn ≤ 1) (hT : p.getD 64 0 = (tn : Int)) (m : Mv) (hg : GoodM p tn m) (hcm : castM q (flm m) = castM p m) : Sq (madeB p m) (madeB q (flm m)) := by
  have hl := hp.len
  have hl' := h.len
  have f0 := hg.ok.f0
  have f1 := hg.ok.f1
  have t0 := hg.ok.t0
  have t1 := hg.ok.t1
  have hTq : q.getD 64 0 = 1 - (tn : Int) := by rw [h.turn, hT]
  have pf := h.sq.pc m.1 f0 f1
  have pt := h.sq.pc m.2 t0 t1
  have rf := hp.at0 m.1 f0 f1
  have rt := hp.at0 m.2 t0 t1
  have hkf : kindOf (pcAt q (flm m).1) = kindOf (pcAt p m.1) := by
    show kindOf (pcAt q (fl m.1)) = _
    rw [pf, tz_kind _ rf.1 rf.2]
  have hpas : passing q (flm m) = passing p m := by
    show (decide (kindOf (pcAt q (flm m).1) = 6) && decide (fl m.1 % 8 ≠ fl m.2 % 8)) = (decide (kindOf (pcAt p m.1) = 6) && decide (m.1 % 8 ≠ m.2 % 8))
    rw [hkf, fl_f, fl_f]
  have ht0 : pcAt q (fl m.2) = 0 ↔ pcAt p m.2 = 0 := by rw [pt, tz_0 _ rt.1]
  have htk : tkIs q (flm m) = tkIs p m := by
    show (decide (pcAt q (fl m.2) ≠ 0) || passing q (flm m)) = (decide (pcAt p m.2 ≠ 0) || passing p m)
    rw [hpas]
    simp only [ne_eq, ht0]
  have hA : Sq (mdA p m) (mdA q (flm m)) := by
    unfold mdA
    rw [htk]
    split
    · rename_i hk
      have hat := atSq_fl (m.2 % 8) (m.1 / 8)
      have hsq : tkSq q (flm m) = fl (tkSq p m) ∧ 0 ≤ tkSq p m ∧ tkSq p m ≤ 63 := by
        have e : tkSq q (flm m) = if pcAt q (fl m.2) ≠ 0 then fl m.2 else if passing q (flm m) = true then atSq (fl m.2 % 8) (fl m.1 / 8) else -1 := rfl
        rw [e, hpas, fl_f, fl_r, hat]
        unfold tkSq
        by_cases hx : pcAt p m.2 = 0
        · rw [if_neg (show ¬ (pcAt q (fl m.2) ≠ 0) from fun e => e (ht0.2 hx)), if_neg (show ¬ (pcAt p m.2 ≠ 0) from fun e => e hx)]
          have hps : passing p m = true := by
            unfold tkIs at hk
            rw [decide_eq_false (fun e => e hx), Bool.false_or] at hk
            exact hk
          have hr : 0 ≤ atSq (m.2 % 8) (m.1 / 8) := by
            unfold atSq
            rw [if_neg (by omega)]
            omega
          rw [if_pos hps, if_pos hps, if_neg (show ¬ atSq (m.2 % 8) (m.1 / 8) < 0 by omega)]
          exact ⟨rfl, hr, (atSq_range _ _).2⟩
        · rw [if_pos (show pcAt q (fl m.2) ≠ 0 from fun e => hx (ht0.1 e)), if_pos (show pcAt p m.2 ≠ 0 from hx)]
          exact ⟨rfl, t0, t1⟩
      rw [hsq.1]
      have := h.sq.set hl hl' (tkSq p m) 0 hsq.2.1 hsq.2.2
      rwa [tz00] at this
    · exact h.sq
  have hB : Sq (mdB p m) (mdB q (flm m)) := by
    unfold mdB
    have h1 := hA.set (mdA_len p m hl) (mdA_len q (flm m) hl') m.1 0 f0 f1
    rw [tz00] at h1
    have h2 := h1.set (by rw [List.length_set, mdA_len p m hl]) (by rw [List.length_set, mdA_len q (flm m) hl']) m.2 (pcAt p m.1) t0 t1
    rw [← pf] at h2
    exact h2
  have hC : Sq (mdC p m) (mdC q (flm m)) := by
    unfold mdC
    by_cases hpr : m.3 = 0
    · rw [if_pos hpr, if_pos (show (flm m).3 = 0 from hpr)]
      exact hB
    · rw [if_neg hpr, if_neg (show ¬ (flm m).3 = 0 from hpr)]
      obtain ⟨_, p2, p5⟩ := hg.pr hpr
      have h2 := hB.set (mdB_len p m hl) (mdB_len q (flm m) hl') m.2 (m.3 + 6 * p.getD 64 0) t0 t1
      have e : tz (m.3 + 6 * p.getD 64 0) = m.3 + 6 * q.getD 64 0 := by
        rw [hT, hTq]
        exact tz_of m.3 tn (show 1 ≤ m.3 by exact Int.le_trans (by decide) p2) (Int.le_trans p5 (by decide)) (by omega) (by omega)
      rw [e] at h2
      exact h2
  have hD : Sq (mdD p m) (mdD q (flm m)) := by
    unfold mdD
    rw [hcm]
    split
    · rename_i hc
      obtain ⟨_, _, cf, cm⟩ := hg.ca hc
      have cf : m.1 = 4 + 56 * (tn : Int) := cf
      have cto : m.2 = m.1 + 2 ∨ m.2 = m.1 - 2 := by
        rcases cm with ⟨e, _⟩ | ⟨e, _⟩
        · exact Or.inl e
        · exact Or.inr e
      have e1 : cornerM (flm m) = fl (cornerM m) := by
        show (if fl m.2 < fl m.1 then 8 * (fl m.1 / 8) else 8 * (fl m.1 / 8) + 7) = fl (if m.2 < m.1 then 8 * (m.1 / 8) else 8 * (m.1 / 8) + 7)
        unfold fl
        split <;> split <;> omega
      have e2 : ((flm m).1 + (flm m).2) / 2 = fl ((m.1 + m.2) / 2) := by
        show (fl m.1 + fl m.2) / 2 = _
        unfold fl
        rcases cto with e | e <;> omega
      have c0 : 0 ≤ cornerM m ∧ cornerM m ≤ 63 := by
        show 0 ≤ (if m.2 < m.1 then 8 * (m.1 / 8) else 8 * (m.1 / 8) + 7) ∧ (if m.2 < m.1 then 8 * (m.1 / 8) else 8 * (m.1 / 8) + 7) ≤ 63
        split <;> omega
      have h1 := hC.set (mdC_len p m hl) (mdC_len q (flm m) hl') (cornerM m) 0 c0.1 c0.2
      rw [tz00] at h1
      have h2 := h1.set (by rw [List.length_set, mdC_len p m hl]) (by rw [List.length_set, mdC_len q (flm m) hl']) ((m.1 + m.2) / 2) (3 + 6 * p.getD 64 0) (by omega) (by omega)
      have e : tz (3 + 6 * p.getD 64 0) = 3 + 6 * q.getD 64 0 := by
        rw [hT, hTq]
        exact tz_of 3 tn (by omega) (by omega) (by omega) (by omega)
      rw [e, ← e2, ← e1] at h2
      exact h2
    · exact hC
  intro s hs
  rw [made_sq q (flm m) (flN s) (flN_lt s hs), made_sq p m s hs]
  exact hD s hs
theorem keep_fl {p q : List Int} (h : Mir p q) (tn : Nat) (hs : Sound p tn) (hsq : Sound q (1 - tn)) (m : Mv) (hg : GoodM p tn m) (hok : MvOk (flm m)) (hcm : castM q (flm m) = castM p m) : keepM q (flm m) = keepM p m := by
  have hp := hs.pos
  have htn := hs.one
  have hT := hs.turn
  have e : ((1 - tn : Nat) : Int) = 1 - (tn : Int) := by omega
  have hTq : q.getD 64 0 = 1 - (tn : Int) := by rw [h.turn, hT]
  have hsqm := made_fl h hp tn htn hT m hg hcm
  have hpm := madeB_pos p hp m hg.ok (by omega) (by omega)
  have hqm := madeB_pos q hsq.pos (flm m) hok (by omega) (by omega)
  have hk := (cnt_fl h.sq hp hsq.pos tn htn (hs.cnt_k tn htn)).2
  have hk0 := hs.king
  obtain ⟨j, _, hkj, hj, _⟩ := king_both p (tn : Int) (hs.cnt_k tn htn)
  have hby : kingBy q (flm m) = fl (kingBy p m) := by
    unfold kingBy
    rw [hTq, hT, ← e, hk]
    show (if fl m.1 = fl (kingAt p (tn : Int)) then fl m.2 else fl (kingAt p (tn : Int))) = _
    by_cases hm : m.1 = kingAt p (tn : Int)
    · rw [if_pos (by rw [hm]), if_pos (show m.fr = kingAt p (tn : Int) from hm)]
    · rw [if_neg (fun x => hm ((fl_inj _ _).1 x)), if_neg (show ¬ m.fr = kingAt p (tn : Int) from hm)]
  have hr : 0 ≤ kingBy p m ∧ kingBy p m ≤ 63 := by
    unfold kingBy
    rw [hT]
    split
    · exact ⟨hg.ok.t0, hg.ok.t1⟩
    · rw [hkj]
      omega
  unfold keepM
  rw [hby, hTq, hT]
  have := att_fl hsqm hpm hqm (kingBy p m) (1 - (tn : Int)) hr.1 hr.2 (by omega) (by omega)
  rw [this]
/-! The position seen from the other side is a fair one. -/
theorem cas_fl (p q : List Int) (h : Mir p q) (c0 : 0 ≤ p.getD 65 0) (c1 : p.getD 65 0 ≤ 15) (tn n : Nat) (htn : tn ≤ 1) (hn : n ≤ 1) : hasR (q.getD 65 0) (2 * (1 - tn) + n) = hasR (p.getD 65 0) (2 * tn + n) := by
  rw [h.cas]
  obtain ⟨c, hc⟩ : ∃ c : Nat, p.getD 65 0 = (c : Int) := ⟨(p.getD 65 0).toNat, by omega⟩
  rw [hc]
  have key : ∀ c < 16, ∀ tn < 2, ∀ n < 2, hasR (((c : Nat) : Int) / 4 + 4 * (((c : Nat) : Int) % 4)) (2 * (1 - tn) + n) = hasR ((c : Nat) : Int) (2 * tn + n) := by decide
  exact key c (by omega) tn (by omega) n (by omega)
theorem rights_of (p : List Int) (c0 : 0 ≤ p.getD 65 0) (c1 : p.getD 65 0 ≤ 15) (h : ∀ r, r < 4 → hasR (p.getD 65 0) r = true → rightB p r = true) : rightsB p = p.getD 65 0 := by
  have e : ∀ r, r < 4 → rightB p r = hasR (p.getD 65 0) r := by
    intro r hr
    cases hh : hasR (p.getD 65 0) r with
    | true => exact h r hr hh
    | false => unfold rightB; rw [hh, Bool.false_and]
  unfold rightsB
  simp only [rightsTo]
  rw [e 0 (by decide), e 1 (by decide), e 2 (by decide), e 3 (by decide)]
  obtain ⟨c, hc⟩ : ∃ c : Nat, p.getD 65 0 = (c : Int) := ⟨(p.getD 65 0).toNat, by omega⟩
  rw [hc]
  have key : ∀ c < 16, (0 + (if hasR ((c : Nat) : Int) 0 = true then (2 : Int) ^ 0 else 0) + (if hasR ((c : Nat) : Int) 1 = true then (2 : Int) ^ 1 else 0) + (if hasR ((c : Nat) : Int) 2 = true then (2 : Int) ^ 2 else 0) + (if hasR ((c : Nat) : Int) 3 = true then (2 : Int) ^ 3 else 0)) = ((c : Nat) : Int) := by decide
  exact key c (by omega)
theorem home_fl : ∀ tn < 2, ∀ n < 2, homeK (2 * (1 - tn) + n) = fl (homeK (2 * tn + n)) ∧ homeR (2 * (1 - tn) + n) = fl (homeR (2 * tn + n)) ∧ 0 ≤ homeK (2 * tn + n) ∧ homeK (2 * tn + n) ≤ 63 ∧ 0 ≤ homeR (2 * tn + n) ∧ homeR (2 * tn + n) ≤ 63 := by decide
theorem fair_fl (p q : List Int) (tn : Nat) (hF : Fair p tn) (h : Mir p q) : Fair q (1 - tn) := by
  have hs := hF.snd
  have hp := hs.pos
  have htn := hs.one
  have hT := hs.turn
  have c0 := hs.ca0
  have c1 := hs.ca1
  have e : ((1 - tn : Nat) : Int) = 1 - (tn : Int) := by omega
  have hq := h.sq.pos hp h.len
  have hcas : 0 ≤ q.getD 65 0 ∧ q.getD 65 0 ≤ 15 := by
    rw [h.cas]
    omega
  have hc0 := cnt_fl h.sq hp hq 0 (by decide) hs.n1
  have hc1 := cnt_fl h.sq hp hq 1 (by decide) hs.n7
  have hsq : Sound q (1 - tn) := by
    refine ⟨hq, by rw [h.turn, hT, e], by omega, hcas.1, hcas.2, ?_, by rw [h.hf]; exact hs.hf, by rw [h.fu]; exact hs.fu, hc1.1, hc0.1⟩
    rw [h.ep]
    have := hs.ep
    split
    · omega
    · have := fl_range (p.getD 66 0) (by omega) (by omega)
      omega
  refine ⟨hsq, ⟨?_⟩, ?_, ?_, ?_⟩
  · rw [h.ep]
    rcases hF.ep.ep with h1 | ⟨x, h1, h2, h3, h4, h5⟩
    · rw [if_pos (by omega)]
      exact Or.inl h1
    · rw [if_neg (by omega), h1, fl_nat x h2]
      refine Or.inr ⟨flN x, rfl, flN_lt x h2, ?_, ?_, ?_⟩
      · rw [← fl_nat x h2, fl_r, e]
        omega
      · rw [h.sq x h2, h4]
        rfl
      · have hb : ((x : Int) - 8 + 16 * (tn : Int)).toNat < 64 := by omega
        have hfl : (((flN x : Nat) : Int) - 8 + 16 * ((1 - tn : Nat) : Int)).toNat = flN ((x : Int) - 8 + 16 * (tn : Int)).toNat := by
          unfold flN
          omega
        rw [hfl, h.sq _ hb, h5, e]
        unfold tz
        split <;> (try split) <;> omega
  · intro a ha hk
    have h1 := h.sq (flN a) (flN_lt a ha)
    rw [flN_fl a ha] at h1
    rw [h1, tz_kind _ (hp.lo _ (flN_lt a ha)) (hp.hi _ (flN_lt a ha))] at hk
    have := hF.pw (flN a) (flN_lt a ha) hk
    unfold flN at this
    omega
  · refine rights_of q hcas.1 hcas.2 ?_
    intro r hr hh
    obtain ⟨tm, n, htm, hn, rfl⟩ : ∃ tm n, tm ≤ 1 ∧ n ≤ 1 ∧ r = 2 * (1 - tm) + n := ⟨1 - r / 2, r % 2, by omega, by omega, by omega⟩
    have hcf := cas_fl p q h c0 c1 tm n htm hn
    rw [hcf] at hh
    have hrb := right_of p tn hF (2 * tm + n) (by omega) hh
    unfold rightB at hrb ⊢
    rw [Bool.and_eq_true, Bool.and_eq_true, decide_eq_true_eq, decide_eq_true_eq] at hrb
    obtain ⟨h1, h2, h3⟩ := hrb
    obtain ⟨k1, k2, k3, k4, k5, k6⟩ := home_fl tm (by omega) n (by omega)
    rw [hcf, hh, k1, k2, h.sq.pc _ k3 k4, h.sq.pc _ k5 k6, h2, h3, Bool.true_and, Bool.and_eq_true, decide_eq_true_eq, decide_eq_true_eq]
    have d1 : ((2 * tm + n : Nat) : Int) / 2 = (tm : Int) := by omega
    have d2 : ((2 * (1 - tm) + n : Nat) : Int) / 2 = 1 - (tm : Int) := by omega
    rw [d1, d2]
    exact ⟨tz_of 1 tm (by omega) (by omega) (by omega) (by omega), tz_of 3 tm (by omega) (by omega) (by omega) (by omega)⟩
  · have hk := (cnt_fl h.sq hp hq (1 - tn) (by omega) (hs.cnt_k (1 - tn) (by omega))).2
    have e2 : 1 - (1 - tn) = tn := by omega
    rw [e2] at hk
    obtain ⟨j, _, hkj, hj, _⟩ := king_both p ((1 - tn : Nat) : Int) (hs.cnt_k (1 - tn) (by omega))
    have hch := hF.chk
    rw [← e, hkj] at hch
    rw [e, show (1 : Int) - (1 - (tn : Int)) = (tn : Int) by omega, hk, hkj, att_fl h.sq hp hq (j : Int) (tn : Int) (by omega) (by omega) (by omega) (by omega)]
    exact hch
theorem mir_back (p q : List Int) (tn : Nat) (hs : Sound p tn) (h : Mir p q) : Mir q p := by
  have hp := hs.pos
  have hT := hs.turn
  have c0 := hs.ca0
  have c1 := hs.ca1
  have hep := hs.ep
  refine ⟨hp.len, h.sq.back hp, by rw [h.turn]; omega, ?_, ?_, h.hf.symm, h.fu.symm⟩
  · rw [h.cas]
    omega
  · rw [h.ep]
    by_cases hx : p.getD 66 0 < 0
    · rw [if_pos hx, if_pos hx]
    · have := fl_range (p.getD 66 0) (by omega) (by omega)
      rw [if_neg hx, if_neg (by omega), fl_fl _ (by omega) (by omega)]
end Go.Proofs.YtnjdgooljnbebaaGreatDoor
namespace Go.Proofs.YtnjdgooljnbebaaGreatDoor
open Go Go.RowKit
set_option maxHeartbeats 8000000
set_option linter.unusedSimpArgs false
set_option linter.unusedVariables false
set_option maxRecDepth 100000

theorem flm_ok (m : Mv) (h : MvOk m) : MvOk (flm m) := by
  have a := fl_range m.1 h.f0 h.f1
  have b := fl_range m.2 h.t0 h.t1
  exact ⟨a.1, a.2, b.1, b.2, h.p0, h.p1⟩
theorem flm_flm (m : Mv) (h : MvOk m) : flm (flm m) = m := by
  obtain ⟨x, y, z⟩ := m
  have e1 : fl (fl x) = x := fl_fl x h.f0 h.f1
  have e2 : fl (fl y) = y := fl_fl y h.t0 h.t1
  show (⟨fl (fl x), fl (fl y), z⟩ : Mv) = _
  rw [e1, e2]
theorem flm_inj (a b : Mv) (h : flm a = flm b) : a = b := by
  obtain ⟨x, y, z⟩ := a
  obtain ⟨x', y', z'⟩ := b
  have h' : (⟨fl x, fl y, z⟩ : Mv) = ⟨fl x', fl y', z'⟩ := h
  injection h' with e1 e2 e3
  rw [(fl_inj x x').1 e1, (fl_inj y y').1 e2, e3]
theorem pm_fl (p q : List Int) (tn : Nat) (hs : Sound p tn) (h : Mir p q) (a b : Int) (a0 : 0 ≤ a) (a1 : a ≤ 63) (b0 : 0 ≤ b) (b1 : b ≤ 63) (m : Mv) (hm : m ∈ pmOf p a b) : flm m ∈ pmOf q (fl a) (fl b) := by
  have hp := hs.pos
  have htn := hs.one
  have hT := hs.turn
  have ra := hp.at0 a a0 a1
  have rb := hp.at0 b b0 b1
  unfold pmOf at hm ⊢
  rw [h.sq.pc a a0 a1, h.sq.pc b b0 b1, h.turn, tz_kind _ ra.1 ra.2, fl_r]
  have hc1 : (tz (pcAt p b) ≠ 0 ∧ sideOf (tz (pcAt p b)) = 1 - p.getD 64 0) ↔ (pcAt p b ≠ 0 ∧ sideOf (pcAt p b) = p.getD 64 0) := by
    by_cases hx : pcAt p b = 0
    · simp [hx, tz00]
    · rw [tz_side _ (by omega) rb.2, ne_eq, tz_0 _ rb.1]
      constructor
      · rintro ⟨u, v⟩
        exact ⟨u, by omega⟩
      · rintro ⟨u, v⟩
        exact ⟨u, by omega⟩
  have hc2 : (kindOf (pcAt p a) ≠ 6 ∨ 7 - b / 8 ≠ 7 - 7 * (1 - p.getD 64 0)) ↔ (kindOf (pcAt p a) ≠ 6 ∨ b / 8 ≠ 7 - 7 * p.getD 64 0) := by
    constructor
    · rintro (u | u)
      · exact Or.inl u
      · exact Or.inr (by omega)
    · rintro (u | u)
      · exact Or.inl u
      · exact Or.inr (by omega)
  by_cases h1 : pcAt p b ≠ 0 ∧ sideOf (pcAt p b) = p.getD 64 0
  · rw [if_pos h1] at hm
    cases hm
  · rw [if_neg h1] at hm
    rw [if_neg (fun e => h1 (hc1.1 e))]
    by_cases h2 : kindOf (pcAt p a) ≠ 6 ∨ b / 8 ≠ 7 - 7 * p.getD 64 0
    · rw [if_pos h2, List.mem_singleton] at hm
      rw [if_pos (hc2.2 h2), hm]
      exact List.mem_singleton.2 rfl
    · rw [if_neg h2] at hm
      rw [if_neg (fun e => h2 (hc2.1 e))]
      obtain ⟨i, hi, rfl⟩ := (mem_promos a b m 4).1 hm
      exact (mem_promos _ _ _ 4).2 ⟨i, hi, rfl⟩
theorem cast_sq : ∀ tn < 2, ∀ n < 2, cE (1 - tn) = flN (cE tn) ∧ cTo (1 - tn) n = flN (cTo tn n) ∧ cMid (1 - tn) n = flN (cMid tn n) ∧ 1 + 56 * (1 - tn) = flN (1 + 56 * tn) ∧ cE tn < 64 ∧ cTo tn n < 64 ∧ cMid tn n < 64 ∧ 1 + 56 * tn < 64 := by decide
theorem cast_flm : ∀ tn < 2, ∀ n < 2, flm (castMv tn n) = castMv (1 - tn) n := by decide
theorem eng_fl (p q : List Int) (tn n : Nat) (hs : Sound p tn) (h : Mir p q) (hn : n ≤ 1) : engC q (1 - tn) n = engC p tn n := by
  have hp := hs.pos
  have htn := hs.one
  have hq := h.sq.pos hp h.len
  obtain ⟨k1, k2, k3, k4, k5, k6, k7, k8⟩ := cast_sq tn (by omega) n (by omega)
  have ha : ∀ s : Nat, s < 64 → attackedB q (flN s : Nat) (1 - ((1 - tn : Nat) : Int)) = attackedB p (s : Nat) (1 - (tn : Int)) := by
    intro s hs'
    have e : (1 : Int) - ((1 - tn : Nat) : Int) = 1 - (1 - (tn : Int)) := by omega
    rw [← fl_nat s hs', e]
    exact att_fl h.sq hp hq (s : Int) (1 - (tn : Int)) (by omega) (by omega) (by omega) (by omega)
  have hz : ∀ s : Nat, s < 64 → decide (q.getD (flN s) 0 = 0) = decide (p.getD s 0 = 0) := by
    intro s hs'
    rw [h.sq s hs']
    simp only [tz_0 _ (hp.lo s hs')]
  unfold engC cRun
  rw [cas_fl p q h hs.ca0 hs.ca1 tn n htn hn, k1, k2, k3, k4, ha _ k5, ha _ k6, ha _ k7, hz _ k6, hz _ k7, hz _ k8]
theorem legal_mem (p : List Int) (tn : Nat) (hF : Fair p tn) (m : Mv) : m ∈ legalL p ↔ (m ∈ pseudoTo p 64 ∧ keepM p m = true) ∨ ∃ n, n ≤ 1 ∧ engC p tn n = true ∧ m = castMv tn n := by
  have he : ∀ n, m ∈ castE p tn n ↔ engC p tn n = true ∧ m = castMv tn n := by
    intro n
    unfold castE
    split
    · rename_i h
      simp [h]
    · rename_i h
      simp [h]
  unfold legalL pseudoL
  rw [List.filter_append, cast_all p tn hF, List.mem_append, List.mem_filter, List.mem_append, he, he]
  constructor
  · rintro (h | h | h)
    · exact Or.inl h
    · exact Or.inr ⟨0, by decide, h⟩
    · exact Or.inr ⟨1, by decide, h⟩
  · rintro (h | ⟨n, hn, h⟩)
    · exact Or.inl h
    · rcases (show n = 0 ∨ n = 1 by omega) with rfl | rfl
      · exact Or.inr (Or.inl h)
      · exact Or.inr (Or.inr h)
theorem legal_fl (p q : List Int) (tn : Nat) (hF : Fair p tn) (h : Mir p q) (m : Mv) (hm : m ∈ legalL p) : flm m ∈ legalL q := by
  have hs := hF.snd
  have hp := hs.pos
  have htn := hs.one
  have hFq := fair_fl p q tn hF h
  rcases (legal_mem p tn hF m).1 hm with ⟨h1, h2⟩ | ⟨n, hn, h1, rfl⟩
  · obtain ⟨a, b, ha, hb, hg, hpm⟩ := (pseudo_goes p tn hF m).1 h1
    have hgq := goes_fl h hp hs.ep tn a b htn ha hb hg
    have x0 := hg.x0
    have x1 := hg.x1
    obtain ⟨k, hk⟩ : ∃ k : Nat, p.getD a 0 = (k : Int) + 1 := ⟨(p.getD a 0 - 1).toNat, by omega⟩
    have hkt : k / 6 = tn := by omega
    obtain ⟨pr, e, hpr⟩ := (pm_goes p tn hF k a b hkt ha hb hk hg m).1 hpm
    have hgood : GoodM p tn m := by
      rw [e]
      exact goes_good p tn hF k a b pr hkt ha hb hk hg (fun hx => by rcases hpr with ⟨_, u⟩ | ⟨u, _⟩; exact u; rw [hx] at u; cases u) (fun hx => by rcases hpr with ⟨u, _⟩ | ⟨_, u⟩; rw [hx] at u; cases u; exact u)
    have c1 : castM p m = false := by rw [e]; exact castM_no p tn hF a b pr ha hb hg
    have c2 : castM q (flm m) = false := by
      have e2 : flm m = mvAt (flN a) (flN b) pr := by
        rw [e]
        show (⟨fl (a : Int), fl (b : Int), pr⟩ : Mv) = ⟨((flN a : Nat) : Int), ((flN b : Nat) : Int), pr⟩
        rw [fl_nat a ha, fl_nat b hb]
      rw [e2]
      exact castM_no q (1 - tn) hFq (flN a) (flN b) pr (flN_lt a ha) (flN_lt b hb) hgq
    refine (legal_mem q (1 - tn) hFq _).2 (Or.inl ⟨?_, ?_⟩)
    · refine (pseudo_goes q (1 - tn) hFq _).2 ⟨flN a, flN b, flN_lt a ha, flN_lt b hb, hgq, ?_⟩
      rw [← fl_nat a ha, ← fl_nat b hb]
      exact pm_fl p q tn hs h a b (by omega) (by omega) (by omega) (by omega) m hpm
    · rw [keep_fl h tn hs hFq.snd m hgood (flm_ok m hgood.ok) (by rw [c1, c2])]
      exact h2
  · refine (legal_mem q (1 - tn) hFq _).2 (Or.inr ⟨n, hn, ?_, cast_flm tn (by omega) n (by omega)⟩)
    rw [eng_fl p q tn n hs h hn]
    exact h1
theorem legal_nodup (p : List Int) (tn : Nat) (hF : Fair p tn) : (legalL p).Nodup := (full_perm p tn hF).nodup_iff.1 (full_nodup p tn hF)
theorem legal_ok (p : List Int) (tn : Nat) (hF : Fair p tn) (m : Mv) (hm : m ∈ legalL p) : MvOk m := by
  obtain ⟨x, hx, rfl⟩ := List.mem_map.1 ((full_perm p tn hF).mem_iff.2 hm)
  exact full_ok p tn hF x hx
theorem legal_perm (p q : List Int) (tn : Nat) (hF : Fair p tn) (h : Mir p q) : (legalL q).Perm ((legalL p).map flm) := by
  have hFq := fair_fl p q tn hF h
  have hb := mir_back p q tn hF.snd h
  have e : 1 - (1 - tn) = tn := by have := hF.snd.one; omega
  refine (List.perm_ext_iff_of_nodup (legal_nodup q (1 - tn) hFq) ?_).2 fun x => ?_
  · exact (legal_nodup p tn hF).map flm fun a b hne he => hne (flm_inj a b he)
  · rw [List.mem_map]
    constructor
    · intro hx
      exact ⟨flm x, legal_fl q p (1 - tn) hFq hb x hx, flm_flm x (legal_ok q (1 - tn) hFq x hx)⟩
    · rintro ⟨y, hy, rfl⟩
      exact legal_fl p q tn hF h y hy
theorem check_fl (p q : List Int) (tn : Nat) (hF : Fair p tn) (h : Mir p q) : checkedB q ((1 - tn : Nat) : Int) = checkedB p (tn : Int) := by
  have hs := hF.snd
  have hp := hs.pos
  have htn := hs.one
  have hq := h.sq.pos hp h.len
  have hk := (cnt_fl h.sq hp hq tn htn (hs.cnt_k tn htn)).2
  obtain ⟨j, _, hkj, hj, _⟩ := king_both p (tn : Int) (hs.cnt_k tn htn)
  have hr := fl_range (j : Int) (by omega) (by omega)
  unfold checkedB
  rw [hk, hkj, decide_eq_true hr.1, decide_eq_true (by omega), Bool.true_and, Bool.true_and]
  have e : (1 : Int) - ((1 - tn : Nat) : Int) = 1 - (1 - (tn : Int)) := by omega
  rw [e]
  exact att_fl h.sq hp hq (j : Int) (1 - (tn : Int)) (by omega) (by omega) (by omega) (by omega)
theorem stat_fl (p q : List Int) (tn : Nat) (hF : Fair p tn) (h : Mir p q) : statN q (1 - tn) = statN p tn := by
  have hl := (legal_perm p q tn hF h).length_eq
  rw [List.length_map] at hl
  unfold statN
  rw [hl, check_fl p q tn hF h]
end Go.Proofs.YtnjdgooljnbebaaGreatDoor
