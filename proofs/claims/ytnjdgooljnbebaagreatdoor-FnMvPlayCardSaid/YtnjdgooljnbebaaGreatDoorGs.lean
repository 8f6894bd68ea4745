/- What stands behind a move: the entries of the engine's list, the text of the rights, the square behind a pawn, the numbers, and that the position is sound. The plain law.
impl.Play of a legal move: the position behind it. For every fair position with at most 218 legal moves.
impl.valid of a move that is not legal, and impl.Play of such a one: none. For every fair position with at most 218 legal moves, and every move.
spec.Is: whether a move is legal. For every sound position with at most 218 legal moves, and every move.
FnMvPlay: the law. For every position and every move. -/
import Derived.Test.YtnjdgooljnbebaaGreatDoorG0
import Derived.Test.YtnjdgooljnbebaaGreatDoorGr
import Derived.Test.YtnjdgooljnbebaaGreatDoorGn
import Derived.Test.YtnjdgooljnbebaaGreatDoorGq
namespace Go.Proofs.YtnjdgooljnbebaaGreatDoor
open Go Go.RowKit
open List renaming getElem_toArray → zA, getElem_cons_zero → zB, getElem_cons_succ → zC, setIfInBounds_toArray → zD, set_cons_zero → zE, set_cons_succ → zF
set_option maxHeartbeats 8000000
set_option linter.unusedSimpArgs false
set_option linter.unusedVariables false
set_option maxRecDepth 100000

/-- What holds of an entry of the engine's list. -/
structure EntOk (p : List Int) (tn : Nat) (x : Mv × Tg) : Prop where
  good : GoodM p tn x.1
  king : kindOf (pcAt p x.1.2) ≠ 1
  ep : x.2.ep = passM p x.1
  ks : x.2.ks = (castM p x.1 && decide (x.1.2 = x.1.fr + 2))
  qs : x.2.qs = (castM p x.1 && decide (x.1.2 = x.1.fr - 2))
  cp : x.2.cp = decide (pcAt p x.1.2 ≠ 0)
theorem kind_0 : kindOf 0 = 0 := by unfold kindOf; split <;> omega
theorem tgP_cp (p : List Int) (tn a b : Nat) : ∀ i, (tgP p tn a b i).cp = true → decide (pcAt p (b : Int) ≠ 0) = true
  | 0, h => by cases h
  | i + 1, h => by
    have h' : ((tgP p tn a b i).cp || decide (pcAt p (b : Int) ≠ 0)) = true := h
    cases hc : (tgP p tn a b i).cp with
    | true => exact tgP_cp p tn a b i hc
    | false => rwa [hc, Bool.false_or] at h'
theorem or_same {a b : Bool} (h : a = true → b = true) : (a || b) = b := by cases a <;> simp_all
theorem ent_ok (p : List Int) (tn : Nat) (hF : Fair p tn) (x : Mv × Tg) (hx : x ∈ fullE p tn) : EntOk p tn x := by
  have htn := hF.snd.one
  unfold fullE at hx
  rcases List.mem_append.1 hx with hx | hx
  · obtain ⟨q, hq, hqt, hx⟩ := (mem_lQ 12).1 hx
    obtain ⟨a, ha, hx⟩ := (mem_lA 64).1 hx
    obtain ⟨b, hb, hx⟩ := (mem_lB 64).1 hx
    unfold goE at hx
    split at hx
    · rename_i hgo
      obtain ⟨hxa, hgoes⟩ := (goes_iff p tn hF q a b hqt ha hb).1 ((goB_iff _ _ _ _ _).1 hgo)
      have hk : kindOf (p.getD b 0) ≠ 1 := goes_king p tn hF a b ha hb hgoes
      split at hx
      · rename_i hpr
        obtain ⟨i, hi, rfl, _⟩ := (mem_lP 4).1 hx
        exact ⟨goes_good p tn hF q a b _ hqt ha hb hxa hgoes (fun h => by rw [hpr] at h; cases h) (fun _ => by omega), hk, rfl, rfl, rfl, or_same (tgP_cp p tn a b i)⟩
      · rename_i hpr
        obtain ⟨rfl, _⟩ := mem_oneE.1 hx
        exact ⟨goes_good p tn hF q a b _ hqt ha hb hxa hgoes (fun _ => rfl) (fun h => absurd h hpr), hk, rfl, rfl, rfl, rfl⟩
    · cases hx
  · have hc : ∀ n, n ≤ 1 → x ∈ castN p tn n → EntOk p tn x := by
      intro n hn h
      unfold castN at h
      split at h
      · rename_i he
        rw [List.mem_singleton] at h
        subst h
        have ho := eng_ok p tn hF n hn he
        have hg := cast_good p tn n htn ho
        have hz := (hg.ca (cast_is p tn n htn ho)).2.1
        refine ⟨hg, ?_, rfl, rfl, rfl, rfl⟩
        show kindOf (pcAt p (castMv tn n).2) ≠ 1
        rw [hz, kind_0]
        decide
      · cases h
    rcases List.mem_append.1 hx with h | h
    · exact hc 0 (by decide) h
    · exact hc 1 (by decide) h
/-! The rights. -/
def casL (ca : Int) : List UInt8 := (casText ca).data.toList
def updB (l : List UInt8) (b0 b1 b2 b3 : Bool) : ByteArray := if cutK (cutK (cutK (cutK l 75 b0) 81 b1) 107 b2) 113 b3 = [] then bs [45] else bs (cutK (cutK (cutK (cutK l 75 b0) 81 b1) 107 b2) 113 b3)
def clr1 (c : Int) (k : Nat) (b : Bool) : Int := c - (if hasR c k && b then 2 ^ k else 0)
def clr4 (c : Int) (b0 b1 b2 b3 : Bool) : Int := clr1 (clr1 (clr1 (clr1 c 0 b0) 1 b1) 2 b2) 3 b3
theorem upd_all : ∀ a < 16, ∀ b0 b1 b2 b3 : Bool, updB (casL ((a : Nat) : Int)) b0 b1 b2 b3 = casText (clr4 ((a : Nat) : Int) (b0 && hasR ((a : Nat) : Int) 0) (b1 && hasR ((a : Nat) : Int) 1) (b2 && hasR ((a : Nat) : Int) 2) (b3 && hasR ((a : Nat) : Int) 3)) := by decide +kernel
theorem clr_all : ∀ a < 16, ∀ b0 b1 b2 b3 : Bool, clr4 ((a : Nat) : Int) b0 b1 b2 b3 = clr4 ((a : Nat) : Int) (b0 && hasR ((a : Nat) : Int) 0) (b1 && hasR ((a : Nat) : Int) 1) (b2 && hasR ((a : Nat) : Int) 2) (b3 && hasR ((a : Nat) : Int) 3) := by decide +kernel
theorem left_clr (c : Int) (m : Mv) : leftB c m = clr4 c (touches m 0) (touches m 1) (touches m 2) (touches m 3) := rfl
theorem casL_bs (ca : Int) : bs (casL ca) = casText ca := (bs_of _).symm
theorem casL_len (ca : Int) (h0 : 0 ≤ ca) (h1 : ca ≤ 15) : (casL ca).length ≤ 100 := by
  have := cas_bs ca.toNat (by omega)
  rw [Int.toNat_of_nonneg h0] at this
  unfold casL
  omega
theorem king_only (p : List Int) (c : Nat) (hc : cnt p (1 + 6 * (c : Int)) 64 = 1) (i j : Nat) (hi : i < 64) (hj : j < 64) (h : p.getD i 0 = 1 + 6 * (c : Int)) : p.getD j 0 = 1 + 6 * (c : Int) ↔ j = i :=
  ⟨fun h2 => cnt_one p _ 64 hc j i hj hi h2 h, fun h2 => by rw [h2]; exact h⟩
theorem Sound.cnt_k {p : List Int} {tn : Nat} (h : Sound p tn) (c : Nat) (hc : c ≤ 1) : cnt p (1 + 6 * (c : Int)) 64 = 1 := by
  rcases (show c = 0 ∨ c = 1 by omega) with rfl | rfl
  · exact h.n1
  · exact h.n7
theorem tst_touch (p : List Int) (tn : Nat) (hF : Fair p tn) (m : Mv) (h : GoodM p tn m) (hkt : kindOf (pcAt p m.2) ≠ 1) (k : Nat) (hk : k < 4) (hr : hasR (p.getD 65 0) k = true) (K : Int) (hK : K = 1 + 6 * ((k / 2 : Nat) : Int)) (C : Int) (hC : C = homeR k) : tstK (pcAt p m.fr) m.fr m.2 K C = touches m k := by
  have hrb := right_of p tn hF k hk hr
  unfold rightB at hrb
  rw [Bool.and_eq_true, Bool.and_eq_true, decide_eq_true_eq, decide_eq_true_eq] at hrb
  obtain ⟨_, hkk, _⟩ := hrb
  have hke : ((k : Int) / 2) = ((k / 2 : Nat) : Int) := by omega
  rw [hke] at hkk
  have hc := hF.snd.cnt_k (k / 2) (by omega)
  have f0 := h.ok.f0
  have f1 := h.ok.f1
  have hh0 : 0 ≤ homeK k ∧ homeK k ≤ 63 := by unfold homeK; omega
  have hto : ¬ m.2 = homeK k := by
    intro e
    rw [e, hkk] at hkt
    exact hkt (cast_kind (k / 2) (by omega))
  have hfr : pcAt p m.fr = K ↔ m.fr = homeK k := by
    rw [hK]
    have := king_only p (k / 2) hc (homeK k).toNat m.fr.toNat (by omega) (by omega) hkk
    refine this.trans ⟨fun e => by omega, fun e => by omega⟩
  unfold tstK touches
  rw [hC]
  have e1 : (pcAt p m.fr == K) = decide (m.fr = homeK k) := by
    rw [Bool.eq_iff_iff]
    simp [hfr]
  have e2 : (m.fr == homeR k) = decide (m.fr = homeR k) := by rw [Bool.eq_iff_iff]; simp
  have e3 : (m.2 == homeR k) = decide (m.2 = homeR k) := by rw [Bool.eq_iff_iff]; simp
  have e4 : decide (m.2 = homeK k) = false := decide_eq_false hto
  rw [e1, e2, e3, e4, Bool.false_or, Bool.or_assoc]
theorem upd_left (p : List Int) (tn : Nat) (hF : Fair p tn) (m : Mv) (h : GoodM p tn m) (hkt : kindOf (pcAt p m.2) ≠ 1) : updTxt (casL (p.getD 65 0)) (pcAt p m.fr) m.fr m.2 = casText (leftB (p.getD 65 0) m) := by
  have c0 := hF.snd.ca0
  have c1 := hF.snd.ca1
  have hu : updTxt (casL (p.getD 65 0)) (pcAt p m.fr) m.fr m.2 = updB (casL (p.getD 65 0)) (tstK (pcAt p m.fr) m.fr m.2 1 7) (tstK (pcAt p m.fr) m.fr m.2 1 0) (tstK (pcAt p m.fr) m.fr m.2 7 63) (tstK (pcAt p m.fr) m.fr m.2 7 56) := rfl
  have t : ∀ k, k < 4 → ∀ K C : Int, K = 1 + 6 * ((k / 2 : Nat) : Int) → C = homeR k → (tstK (pcAt p m.fr) m.fr m.2 K C && hasR (p.getD 65 0) k) = (touches m k && hasR (p.getD 65 0) k) := by
    intro k hk K C hK hC
    cases hr : hasR (p.getD 65 0) k with
    | false => simp
    | true => rw [tst_touch p tn hF m h hkt k hk hr K hK C hC]
  have e := upd_all (p.getD 65 0).toNat (by omega) (tstK (pcAt p m.fr) m.fr m.2 1 7) (tstK (pcAt p m.fr) m.fr m.2 1 0) (tstK (pcAt p m.fr) m.fr m.2 7 63) (tstK (pcAt p m.fr) m.fr m.2 7 56)
  have e2 := clr_all (p.getD 65 0).toNat (by omega) (touches m 0) (touches m 1) (touches m 2) (touches m 3)
  rw [Int.toNat_of_nonneg c0] at e e2
  rw [hu, e, left_clr, e2, t 0 (by decide) 1 7 rfl rfl, t 1 (by decide) 1 0 rfl rfl, t 2 (by decide) 7 63 rfl rfl, t 3 (by decide) 7 56 rfl rfl]
/-! The other numbers. -/
theorem made_64 (p : List Int) (m : Mv) (hl : p.length = 69) : (madeB p m).getD 64 0 = 1 - p.getD 64 0 := by
  unfold madeB
  rw [getD_set, if_pos ⟨rfl, by simp [mdH_len p m hl]⟩]
theorem set_off (l : List Int) (i j : Nat) (z : Int) (h : i ≠ j) : (l.set i z).getD j 0 = l.getD j 0 := by rw [getD_set, if_neg (fun e => h e.1)]
theorem set_on (l : List Int) (i : Nat) (z : Int) (h : i < l.length) : (l.set i z).getD i 0 = z := by rw [getD_set, if_pos ⟨rfl, h⟩]
theorem made_68 (p : List Int) (m : Mv) (hl : p.length = 69) : (madeB p m).getD 68 0 = p.getD 68 0 + p.getD 64 0 := by
  unfold madeB
  rw [set_off _ _ _ _ (by decide), set_on _ _ _ (by rw [mdH_len p m hl]; decide)]
theorem made_67 (p : List Int) (m : Mv) (hl : p.length = 69) : (madeB p m).getD 67 0 = if (tkIs p m || decide (kindOf (pcAt p m.fr) = 6)) = true then 0 else p.getD 67 0 + 1 := by
  unfold madeB
  rw [set_off _ _ _ _ (by decide), set_off _ _ _ _ (by decide)]
  unfold mdH
  split
  · rw [set_on _ _ _ (by rw [mdG_len p m hl]; decide)]
  · unfold mdG
    rw [set_on _ _ _ (by rw [mdF_len p m hl]; decide)]
theorem made_lo (p : List Int) (m : Mv) (j : Nat) (hj : j ≠ 64 ∧ j ≠ 67 ∧ j ≠ 68) : (madeB p m).getD j 0 = (mdF p m).getD j 0 := by
  unfold madeB
  rw [set_off _ _ _ _ (by omega), set_off _ _ _ _ (by omega)]
  unfold mdH
  split
  · rw [set_off _ _ _ _ (by omega)]
    unfold mdG
    rw [set_off _ _ _ _ (by omega)]
  · unfold mdG
    rw [set_off _ _ _ _ (by omega)]
theorem made_66 (p : List Int) (m : Mv) (hl : p.length = 69) : (madeB p m).getD 66 0 = if dblM p m = true then (m.fr + m.2) / 2 else -1 := by
  rw [made_lo p m 66 (by decide)]
  unfold mdF
  split
  · rw [set_on _ _ _ (by rw [mdE_len p m hl]; decide)]
  · unfold mdE
    rw [set_on _ _ _ (by rw [List.length_set, mdD_len p m hl]; decide)]
theorem made_65 (p : List Int) (m : Mv) (hl : p.length = 69) : (madeB p m).getD 65 0 = leftB (p.getD 65 0) m := by
  rw [made_lo p m 65 (by decide)]
  have e : (mdE p m).getD 65 0 = leftB (p.getD 65 0) m := by
    unfold mdE
    rw [set_off _ _ _ _ (by decide), set_on _ _ _ (by rw [mdD_len p m hl]; decide)]
  unfold mdF
  split
  · rw [set_off _ _ _ _ (by decide), e]
  · exact e
theorem half_made (p : List Int) (tn : Nat) (x : Mv × Tg) (h : EntOk p tn x) (hl : p.length = 69) (k : Nat) (hk : pcAt p x.1.fr = (k : Int) + 1) (hk12 : k < 12) : halfN (p.getD 67 0) k x.2.cp = (madeB p x.1).getD 67 0 := by
  rw [made_67 p x.1 hl, h.cp]
  have e6 : kindOf (pcAt p x.1.fr) = 6 ↔ k % 6 = 5 := by
    rw [hk]
    unfold kindOf
    split <;> omega
  unfold halfN
  have e : (k % 6 = 5 ∨ decide (pcAt p x.1.2 ≠ 0) = true) ↔ (tkIs p x.1 || decide (kindOf (pcAt p x.1.fr) = 6)) = true := by
    unfold tkIs passing
    rw [← e6]
    simp only [Bool.or_eq_true, Bool.and_eq_true, decide_eq_true_eq]
    constructor
    · rintro (h1 | h1)
      · exact Or.inr h1
      · exact Or.inl (Or.inl h1)
    · rintro ((h1 | h1) | h1)
      · exact Or.inr h1
      · exact Or.inl h1.1
      · exact Or.inl h1
  simp only [e]
/-- A pawn's steps of two rows. -/
theorem ep_made (p : List Int) (tn : Nat) (hF : Fair p tn) (x : Mv × Tg) (hx : x ∈ fullE p tn) : epM p tn x.1.fr.toNat x.1.2.toNat = (madeB p x.1).getD 66 0 := by
  have htn := hF.snd.one
  have hok := full_ok p tn hF x hx
  have hent := ent_ok p tn hF x hx
  have f0 := hok.f0
  have t0 := hok.t0
  rw [made_66 p x.1 hF.snd.pos.len]
  have hpc : pcAt p x.1.fr = p.getD x.1.fr.toNat 0 := rfl
  unfold epM
  by_cases hk : kindOf (p.getD x.1.fr.toNat 0) = 6
  · have hsq : ∃ a b : Nat, a < 64 ∧ b < 64 ∧ x.1.fr = (a : Int) ∧ x.1.2 = (b : Int) ∧ Goes p tn a b := by
      unfold fullE at hx
      rcases List.mem_append.1 hx with h | h
      · obtain ⟨q, hq, hqt, h⟩ := (mem_lQ 12).1 h
        obtain ⟨a, b, pr, ha, hb, e1, hgo⟩ := lA_at h
        refine ⟨a, b, ha, hb, by rw [e1]; rfl, by rw [e1]; rfl, ((goes_iff p tn hF q a b hqt ha hb).1 ((goB_iff _ _ _ _ _).1 hgo)).2⟩
      · exfalso
        have hc : ∀ n, n ≤ 1 → x ∈ castN p tn n → False := by
          intro n hn h
          unfold castN at h
          split at h
          · rename_i he
            rw [List.mem_singleton] at h
            subst h
            have ho := eng_ok p tn hF n hn he
            have h2 := ho.k
            have h3 : kindOf (p.getD (cE tn) 0) = 6 := hk
            rw [h2, cast_kind tn htn] at h3
            omega
          · cases h
        rcases List.mem_append.1 h with h | h
        · exact hc 0 (by decide) h
        · exact hc 1 (by decide) h
    obtain ⟨a, b, ha, hb, e1, e2, hg⟩ := hsq
    rw [e1, e2, Int.toNat_natCast, Int.toNat_natCast]
    rw [e1, Int.toNat_natCast] at hk
    have x0 := hent.good.x0
    have x1 := hent.good.x1
    rw [e1] at x0 x1
    have x0 : 1 + 6 * (tn : Int) ≤ p.getD a 0 := x0
    have x1 : p.getD a 0 ≤ 6 + 6 * (tn : Int) := x1
    have hp6 : p.getD a 0 = 6 + 6 * (tn : Int) := by
      unfold kindOf at hk
      split at hk <;> omega
    have hgo := pawn_goes p tn hF a b ha hb hp6 hg
    have hdb : dblM p x.1 = decide ((b : Int) = a + 16 ∨ (b : Int) = a - 16) := by
      unfold dblM
      rw [e1, e2]
      have e3 : kindOf (pcAt p (a : Int)) = 6 := hk
      rw [decide_eq_true e3, Bool.true_and]
      rw [Bool.eq_iff_iff]
      simp
    rw [hdb]
    by_cases h2 : (b : Int) = a + 16 - 32 * (tn : Int)
    · rw [if_pos ⟨hk, by omega, by omega⟩, if_pos (by rw [decide_eq_true_eq]; omega)]
      omega
    · rw [if_neg (by rintro ⟨_, h3, h4⟩; omega), if_neg (by rw [decide_eq_true_eq]; omega)]
  · rw [if_neg (fun h => hk h.1), if_neg]
    intro h
    unfold dblM at h
    rw [Bool.and_eq_true, decide_eq_true_eq] at h
    exact hk h.1
theorem cnt_uniq (q : List Int) (K : Int) (k : Nat) (h : ∀ j, j < 64 → (q.getD j 0 = K ↔ j = k)) : ∀ n, n ≤ 64 → cnt q K n = if k < n then 1 else 0
  | 0, _ => by simp [cnt]
  | n + 1, hn => by
    have ih := cnt_uniq q K k h n (by omega)
    by_cases hk : n = k
    · rw [cnt_yes q K n ((h n (by omega)).2 hk), ih, if_neg (by omega), if_pos (by omega)]
    · rw [cnt_no q K n (fun e => hk ((h n (by omega)).1 e)), ih]
      by_cases h1 : k < n
      · rw [if_pos h1, if_pos (by omega)]
      · rw [if_neg h1, if_neg (by omega)]
theorem made_sound (p : List Int) (tn : Nat) (hF : Fair p tn) (x : Mv × Tg) (hx : x ∈ fullE p tn) : Sound (madeB p x.1) (1 - tn) := by
  have htn := hF.snd.one
  have hok := full_ok p tn hF x hx
  have hent := ent_ok p tn hF x hx
  have hl := hF.snd.pos.len
  have hT := hF.snd.turn
  have hlr := left_range (p.getD 65 0) x.1 hF.snd.ca0 hF.snd.ca1 4
  have hcnt : ∀ c : Nat, c ≤ 1 → cnt (madeB p x.1) (1 + 6 * (c : Int)) 64 = 1 := by
    intro c hc
    obtain ⟨k, _, _, hk, hkk⟩ := king_both p (c : Int) (hF.snd.cnt_k c hc)
    have hu : ∀ j, j < 64 → (p.getD j 0 = 1 + 6 * (c : Int) ↔ j = k) := fun j hj => king_only p c (hF.snd.cnt_k c hc) k j hk hj hkk
    have hm := made_king p hl tn htn hT x.1 hent.good c hc hent.king k hk hu
    rw [cnt_uniq _ _ _ hm 64 (Nat.le_refl _), if_pos]
    have := hok.t1
    split <;> omega
  have he := made_66 p x.1 hl
  have hf := made_67 p x.1 hl
  have hfu := hF.snd.fu
  have hhf := hF.snd.hf
  have f0 := hok.f0
  have f1 := hok.f1
  have t0 := hok.t0
  have t1 := hok.t1
  refine ⟨madeB_pos p hF.snd.pos x.1 hok (by omega) (by omega), ?_, by omega, ?_, ?_, ?_, ?_, ?_, hcnt 0 (by decide), hcnt 1 (by decide)⟩
  · rw [made_64 p x.1 hl, hT]
    omega
  · rw [made_65 p x.1 hl]
    exact hlr.1
  · rw [made_65 p x.1 hl]
    exact hlr.2
  · rw [he]
    split <;> omega
  · rw [hf]
    split <;> omega
  · rw [made_68 p x.1 hl, hT]
    omega
end Go.Proofs.YtnjdgooljnbebaaGreatDoor
namespace Go.Proofs.YtnjdgooljnbebaaGreatDoor
open Go Go.RowKit
open List renaming getElem_toArray → zA, getElem_cons_zero → zB, getElem_cons_succ → zC, setIfInBounds_toArray → zD, set_cons_zero → zE, set_cons_succ → zF
set_option maxHeartbeats 8000000
set_option linter.unusedSimpArgs false
set_option linter.unusedVariables false
set_option maxRecDepth 100000

/-- The engine's position as the rules have it, whatever moves are cached and whatever is told of check. -/
def EngRow (p : List Int) (tn : Nat) (v : Value) (chk : Bool) (pg bg : Nat) (w : World) : Prop :=
  w.heap[pg]? = some (.cells (posW bg (casText (p.getD 65 0)) v (p.getD 67 0) (p.getD 68 0) tn (p.getD 66 0) chk) 103 (0, 0)) ∧ w.heap[bg]? = some (.cells (brd p) 144 (0, 0))
theorem EngRow.cells {p : List Int} {tn : Nat} {v : Value} {chk : Bool} {pg bg : Nat} {w : World} (h : EngRow p tn v chk pg bg w) : EngCells p tn pg bg w :=
  ⟨cell_of_row w pg 0 _ _ _ h.1, cell_of_row w pg 1 _ _ _ h.1, cell_of_row w pg 3 _ _ _ h.1, cell_of_row w pg 4 _ _ _ h.1, cell_of_row w pg 5 _ _ _ h.1, cell_of_row w pg 6 _ _ _ h.1, h.2, (Array.getElem?_eq_some_iff.1 h.1).1⟩
def StepPost (p : List Int) (tn : Nat) (x : Mv × Tg) (w : World) (e : Ending) (w' : World) : Prop :=
  ∃ ng nb, e = .returned (.pointer (some ⟨ng, 0, none⟩)) ∧ w.heap.size ≤ ng ∧ w.heap.size ≤ nb ∧ nb ≠ ng ∧ EngRow (madeB p x.1) (1 - tn) (.slice none 0 0) x.2.ck ng nb w' ∧ Below w.heap.size w w'
theorem zs_step (p : List Int) (tn : Nat) (hF : Fair p tn) (x : Mv × Tg) (hx : x ∈ fullE p tn) (hh : p.getD 67 0 ≤ 1000000) (hf : p.getD 68 0 ≤ 1000000) (pg bg mg : Nat) (v : Value) (chk : Bool) (w : World)
    (hE : EngRow p tn v chk pg bg w) (hm : MvAt mg (tgN x.2) x.1.fr x.1.2 x.1.pr w) (hA : IntSl w 0 .i8 allL) :
    Calls Tryz.prog 44 #[.pointer (some ⟨pg, 0, none⟩), .pointer (some ⟨mg, 0, none⟩)] w (StepPost p tn x w) := by
  have hs := hF.snd
  have htn := hs.one
  have hl := hs.pos.len
  have he := ent_ok p tn hF x hx
  have hok := full_ok p tn hF x hx
  have f0 := hok.f0
  have f1 := hok.f1
  obtain ⟨k, hk⟩ : ∃ k : Nat, pcAt p x.1.fr = (k : Int) + 1 := ⟨(pcAt p x.1.fr - 1).toNat, by have := he.good.x0; omega⟩
  have hk12 : k < 12 := by have := he.good.x1; omega
  have hpg := hE.1
  rw [← casL_bs] at hpg
  refine (zu_update p tn hs x.1 he.good he.king x.2 he.ep he.ks he.qs k hk (casL (p.getD 65 0)) (casL_len _ hs.ca0 hs.ca1) pg bg mg v (p.getD 67 0) (p.getD 68 0) (p.getD 66 0) chk hs.hf hh (by have := hs.fu; omega) hf w hpg hE.2 hm hA).mono ?_
  rintro e w' ⟨ng, nb, rfl, h1, h2, h3, h4, h5, h6⟩
  refine ⟨ng, nb, rfl, h1, h2, h3, ⟨?_, h5⟩, h6⟩
  have e65 : casText ((madeB p x.1).getD 65 0) = updTxt (casL (p.getD 65 0)) (pcAt p x.1.fr) x.1.fr x.1.2 := by rw [made_65 p x.1 hl, upd_left p tn hF x.1 he.good he.king]
  have e68 : (madeB p x.1).getD 68 0 = p.getD 68 0 + (tn : Int) := by rw [made_68 p x.1 hl, hs.turn]
  have e64 : ((1 - tn : Nat) : Int) = 1 - (tn : Int) := by omega
  rw [e65, e68, e64, ← half_made p tn x he hl k hk hk12, ← ep_made p tn hF x hx]
  exact h4
theorem zq_idle (p q : Addr) (w : World) :
    CallsD Tryz.prog 42 #[.pointer (some p), .pointer (some q)] .returning w fun e u' w' => e = .returned (.tuple #[]) ∧ u' = .returning ∧ w = w' := by
  refine callsD_of_wpS Tryz.func42 rfl fun c₀ cs hu => ?_
  apply wpS_seq
  apply wpS_region
  simp [wpOpsS, go_sem, recoverD, hu, Tryz.ntmps42, Exit.thenS]
  refine wpS_cond (t := false) (by simp [Act.eval, Array.replicate]) ?_
  simp only [Bool.false_eq_true, if_false]
  refine wpS_of_wp (wp_skip ?_)
  cases c₀
  simp_all [bodyPostS, results, Tryz.results42]
def pos00 : List Int := List.replicate 69 0
/-- A position and a move as arguments, a variable for a position, and one of one cell behind them. -/
def zqW (w : World) (p : List Int) (m : Mv) : World := (((w.alloc (.cells (ints p) 24)).alloc (.cells (ints (mvL m)) 35)).alloc (.cells (ints pos00) 24)).alloc (.cells #[.bool false] 4)
theorem zqW_rows (w : World) (p : List Int) (m : Mv) : PosAt p w.heap.size (zqW w p m) ∧ (zqW w p m).heap[w.heap.size + 1]? = some (.cells (ints (mvL m)) 35 (0, 0)) ∧ PosAt pos00 (w.heap.size + 1 + 1) (zqW w p m) ∧
    (zqW w p m).heap[w.heap.size + 1 + 1 + 1]? = some (.cells #[.bool false] 4 (0, 0)) ∧ Below w.heap.size w (zqW w p m) ∧ (zqW w p m).heap.size = w.heap.size + 4 := by
  refine ⟨heap_keep (heap_keep (heap_alloc2_old w _ _)), heap_keep (heap_keep (heap_alloc2_new w _ _)), heap_keep (heap_at _ _ _ (by simp)), heap_at _ _ _ (by simp), ?_, by simp [zqW]⟩
  exact ((((Below.refl _ _).alloc (Nat.le_refl _) _).alloc (by simp) _).alloc (by simp; omega) _).alloc (by simp; omega) _
theorem zq_results {fn : Func} {p q : Tmp} (h : fn.results = #[.cell p 24, .cell q 4]) (tmps : Array Value) (w : World) (l : List Int) (hl : l.length = 69) (g g2 : Nat) (b : Bool) (hp : tmps.getD p undef = .pointer (some ⟨g, 0, none⟩)) (hg : PosAt l g w)
    (hq : tmps.getD q undef = .pointer (some ⟨g2, 0, none⟩)) (hv : w.cell? ⟨g2, 0, none⟩ = some (.bool b)) : (results fn tmps).run Tryz.prog w = .ok (.tuple #[.agg (ints l), .bool b]) w := by
  have hp' : tmps[p]?.getD undef = .pointer (some ⟨g, 0, none⟩) := by simpa using hp
  have hq' : tmps[q]?.getD undef = .pointer (some ⟨g2, 0, none⟩) := by simpa using hq
  have hg' : w.heap[g]? = some (.cells (ints l) 24 (0, 0)) := hg
  simp [results, h, hp', hq', asAddr, run_loadVar_row w g 24 24 (ints l) (0, 0) _ hg' Tryz.underlying24 rfl (by rw [ints_size, hl]; kernel_rfl), load_one Tryz.underlying4 rfl hv]
theorem zq_play (p : List Int) (tn : Nat) (hF : Fair p tn) (h218 : (legalL p).length ≤ 218) (hh : p.getD 67 0 ≤ 1000000) (hf : p.getD 68 0 ≤ 1000000) (kt : Nat) (x : Mv × Tg) (hx : (fullE p tn)[kt]? = some x) (w : World) (hT : Tabs w) (hA : IntSl w 0 .i8 allL) (hP : IntSl w 1 .i8 [2, 3, 4, 5]) :
    Calls Tryz.prog 21 #[.agg (ints p), .agg (ints (mvL x.1))] w fun e w' => e = .returned (.tuple #[.agg (ints (madeB p x.1)), .bool true]) ∧ Below w.heap.size w w' := by
  have hl := hF.snd.pos.len
  have hxm : x ∈ fullE p tn := List.mem_iff_getElem?.2 ⟨kt, hx⟩
  have hmf := makeFunc_run Tryz.prog
  obtain ⟨hr0, hr1, hr2, hr3, hBW, hsz⟩ := zqW_rows w p x.1
  have hr0' : (zqW w p x.1).heap[w.heap.size]? = some (.cells (ints p) 24 (0, 0)) := hr0
  have hGb : Shut (∀ V, Below w.heap.size w V → Tabs V ∧ IntSl V 0 .i8 allL ∧ IntSl V 1 .i8 [2, 3, 4, 5]) := fun V hb' => ⟨hT.below hb' (Nat.le_refl _), hA.below hb', hP.below hb'⟩
  have hpz := lay (pz_position p tn hF.snd hh hf (zqW w p x.1) (hT.below hBW (Nat.le_refl _)) (hA.below hBW))
  have hva := lay (fun (pg bg : Nat) (W : World) h1 h2 h3 h4 h5 h6 => yc_valid p tn hF h218 x.1 kt (List.getElem?_eq_some_iff.1 hx).1 (full_first p tn hF kt x hx) (fun y hy => by rw [hx] at hy; injection hy with hy; rw [hy]) pg bg W h1 h2 h3 h4 h5 h6)
  have hst := lay (fun (pg bg mg : Nat) (v : Value) (W : World) hE hm hA => zs_step p tn hF x hxm hh hf pg bg mg v (checkedB p tn) W hE hm hA)
  have hpl := lay (fun (pg bg : Nat) (W : World) hE hA => pm_plain (madeB p x.1) (1 - tn) (made_sound p tn hF x hxm) pg bg W hE hA)
  have hlq : (madeB p x.1).length = 69 := madeB_len p x.1 hl
  have hxs := lay hx
  have hr1s := lay hr1
  have hr2s := lay hr2
  have hr3s := lay hr3
  have hBs := lay hBW
  have hszs := lay hsz
  clear hT hA hP hF hr1 hr2 hr3 hBW h218 hh hf hx hsz hxm
  go_enter_defers Tryz.func21, Tryz.ntmps21
  go_wp2_with (with_reducible refine at_load_row hr0' Tryz.underlying24 rfl ?_ rfl ?_; (rw [ints_size, hl]; kernel_rfl))
  change Calls _ _ _ (zqW w p x.1) _
  generalize zqW w p x.1 = W at *
  refine hpz.out.mono ?_
  rintro e1 w1 ⟨v, rfl, pg, bg, rfl, hge, hE, hb1⟩
  have hH1 : Shut (Below (w.heap.size + 4) W w1) := hb1.mono (by have := hszs.out; omega)
  have hB1 := lay (hBs.out.trans (hH1.out.mono (by omega)))
  have hgpg : Shut (w.heap.size + 4 ≤ pg) := by
    show _ ≤ _
    have := hszs.out
    omega
  have hv1 := lay (hva.out pg bg w1 hE.ps hE.bd (eng_ne hE) (hGb.out _ hB1.out).1 (hGb.out _ hB1.out).2.1 (hGb.out _ hB1.out).2.2)
  have hbd1 := lay hE.bd
  have hne1 := lay (eng_ne hE)
  have hs1 : Shut (w.heap.size + 4 ≤ w1.heap.size) := by
    show _ ≤ _
    have := hb1.size
    have := hszs.out
    omega
  have m1 : w1.heap[w.heap.size + 1]? = some (.cells (ints (mvL x.1)) 35 (0, 0)) := (hH1.out.block _ (by omega)).trans hr1s.out
  have hlm : (mvL x.1).length = 3 := rfl
  clear hb1 hE hge hr0 hr0'
  go_wp2_with ((with_reducible refine at_load_row m1 Tryz.underlying35 rfl ?_ ?_ ?_); (rw [ints_size, hlm]; kernel_rfl); rfl)
  refine hv1.out.mono ?_
  rintro e2 w2 ⟨ha2, ⟨v2, hp2⟩, y, hm, hy, rfl, hge2, hm2⟩
  obtain rfl : x = y := by
    rw [hxs.out] at hy
    injection hy
  have hH2 := lay (ha2.below hgpg.out hs1.out hH1.out)
  have hB2 := lay (hBs.out.trans (hH2.out.mono (by omega)))
  have hbd2 : w2.heap[bg]? = some (.cells (brd p) 144 (0, 0)) := (ha2.2 bg (Array.getElem?_eq_some_iff.1 hbd1.out).1 hne1.out).trans hbd1.out
  have hs2 := lay (hst.out pg bg hm v2 w2 ⟨hp2, hbd2⟩ hm2 (hGb.out _ hB2.out).2.1)
  have hz2 : Shut (w.heap.size + 4 ≤ w2.heap.size) := by
    show _ ≤ _
    have := ha2.1.size
    have := hs1.out
    omega
  clear ha2 hp2 hy hge2 hm2 hbd2 m1
  go_wp2_with fail
  refine hs2.out.mono ?_
  rintro e3 w3 ⟨ng, nb, rfl, _, _, _, hE3, hb3⟩
  have hH3 := lay (hH2.out.trans (hb3.mono hz2.out))
  have hB3 := lay (hBs.out.trans (hH3.out.mono (by omega)))
  have hp3 := lay (hpl.out ng nb w3 hE3.cells (hGb.out _ hB3.out).2.1)
  have hz3 : Shut (w.heap.size + 4 ≤ w3.heap.size) := Nat.le_trans hz2.out hb3.size
  clear hb3 hE3
  go_wp2_with fail
  refine hp3.out.mono ?_
  rintro e4 w4 ⟨rfl, hb4⟩
  have hH4 := lay (hH3.out.trans (hb4.mono hz3.out))
  have hB4 := lay (hBs.out.trans (hH4.out.mono (by omega)))
  have q1 : w4.heap[w.heap.size + 1 + 1]? = some (.cells (ints pos00) 24 (0, 0)) := (hH4.out.block _ (by omega)).trans hr2s.out
  have q2 := lay ((hH4.out.block (w.heap.size + 1 + 1 + 1) (by omega)).trans hr3s.out)
  clear hb4
  have s2 : (w4.setRow (w.heap.size + 1 + 1) (ints (madeB p x.1))).heap[w.heap.size + 1 + 1 + 1]? = some (.cells #[.bool false] 4 (0, 0)) := (setRow_other w4 (w.heap.size + 1 + 1) (w.heap.size + 1 + 1 + 1) (ints (madeB p x.1)) (by omega)).trans q2.out
  have s1 : (w4.setRow (w.heap.size + 1 + 1) (ints (madeB p x.1))).heap[w.heap.size + 1 + 1]? = some (.cells (ints (madeB p x.1)) 24 (0, 0)) := setRow_heap _ _ _ (ints (madeB p x.1)) _ _ q1
  have k0 : (w4.setRow (w.heap.size + 1 + 1) (ints (madeB p x.1))).cell? ⟨w.heap.size + 1 + 1 + 1, 0, none⟩ = some (.bool false) := cell_of_row _ _ 0 _ _ _ s2
  have k1 := frozen_of_row (w4.setRow (w.heap.size + 1 + 1) (ints (madeB p x.1))) (w.heap.size + 1 + 1 + 1) 0 _ _ s2
  have hB5 := lay (below_setRow' hB4.out (g := w.heap.size + 1 + 1) (by omega) (ints (madeB p x.1)))
  have s1s := lay s1
  have s2s := lay s2
  have l0 : pos00.length = 69 := by simp [pos00]
  clear s1 s2
  generalize hrr : madeB p x.1 = r at *
  have hrrs := lay hrr
  clear hrr
  go_wp2_with ((with_reducible refine at_store_row (ints r) q1 ?_ ?_ ?_ ?_ ?_ ?_); (rw [ints_size, hlq]; kernel_rfl); (rw [ints_size, ints_size, hlq, l0]); exact ints_one r; rfl; rfl)
  refine leaves_cons (f := 42) (args := #[.pointer (some ⟨w.heap.size + 1 + 1, 0, none⟩), .pointer (some ⟨w.heap.size + 1 + 1 + 1, 0, none⟩)]) (by simp) (by simp [go_sem]) ?_
  refine (zq_idle _ _ _).mono ?_
  rintro e u' w'' ⟨rfl, rfl, rfl⟩
  have t1 : PosAt r (w.heap.size + 1 + 1) ((w4.setRow (w.heap.size + 1 + 1) (ints r)).setCell ⟨w.heap.size + 1 + 1 + 1, 0, none⟩ (.bool true)) := (heap_setCell_other _ _ _ _ (by show w.heap.size + 1 + 1 ≠ w.heap.size + 1 + 1 + 1; omega)).trans s1s.out
  have t2 : ((w4.setRow (w.heap.size + 1 + 1) (ints r)).setCell ⟨w.heap.size + 1 + 1 + 1, 0, none⟩ (.bool true)).cell? ⟨w.heap.size + 1 + 1 + 1, 0, none⟩ = some (.bool true) := cell_of_row _ _ 0 _ _ _ (heap_setCell_same _ _ 0 _ _ (.bool true) s2s.out)
  exact ⟨_, zq_results rfl _ _ r hlq (w.heap.size + 1 + 1) (w.heap.size + 1 + 1 + 1) true rfl t1 rfl t2, by rw [hrrs.out], hB5.out.setCell (p := ⟨w.heap.size + 1 + 1 + 1, 0, none⟩) (by show w.heap.size ≤ w.heap.size + 1 + 1 + 1; omega) _⟩
end Go.Proofs.YtnjdgooljnbebaaGreatDoor
namespace Go.Proofs.YtnjdgooljnbebaaGreatDoor
open Go Go.RowKit
open List renaming getElem_toArray → zA, getElem_cons_zero → zB, getElem_cons_succ → zC, setIfInBounds_toArray → zD, set_cons_zero → zE, set_cons_succ → zF
set_option maxHeartbeats 8000000
set_option linter.unusedSimpArgs false
set_option linter.unusedVariables false
set_option maxRecDepth 100000

theorem zn_valid (p : List Int) (tn : Nat) (hF : Fair p tn) (h218 : (legalL p).length ≤ 218) (m : Mv) (hno : ∀ x ∈ fullE p tn, x.1 ≠ m) (pg bg : Nat) (w : World)
    (hpg : w.heap[pg]? = some (.cells (posW bg (casText (p.getD 65 0)) (.slice none 0 0) (p.getD 67 0) (p.getD 68 0) tn (p.getD 66 0) (checkedB p tn)) 103 (0, 0))) (hbg : w.heap[bg]? = some (.cells (brd p) 144 (0, 0))) (hne : bg ≠ pg) (hT : Tabs w) (hA : IntSl w 0 .i8 allL) (hP : IntSl w 1 .i8 [2, 3, 4, 5]) :
    Calls Tryz.prog 38 #[.pointer (some ⟨pg, 0, none⟩), .agg (ints (mvL m))] w fun e w' => Alone pg w w' ∧ ∃ t v, e = .panicked [{ v := .iface t v, recovered := false }] := by
  have hpl : pg < w.heap.size := (Array.getElem?_eq_some_iff.1 hpg).1
  have hBW : Below w.heap.size w (w.alloc (.cells (ints (mvL m)) 35)) := (Below.refl _ _).alloc (Nat.le_refl _) _
  have hfi := lay (yb_find p tn hF h218 m (fullE p tn).length (Nat.le_refl _) (fun j x hj hx => hno x (List.mem_iff_getElem?.2 ⟨j, hx⟩)) (fun x hx => by simp at hx) pg bg (w.alloc (.cells (ints (mvL m)) 35)) ((hBW.block pg hpl).trans hpg) ((hBW.block bg (Array.getElem?_eq_some_iff.1 hbg).1).trans hbg) hne (hT.below hBW (Nat.le_refl _)) (hA.below hBW) (hP.below hBW))
  have hmr : (w.alloc (.cells (ints (mvL m)) 35)).heap[w.heap.size]? = some (.cells (ints (mvL m)) 35 (0, 0)) := heap_alloc_new w _
  have hBs := lay hBW
  have hlm : (mvL m).length = 3 := rfl
  clear hF h218 hno hpg hbg hne hT hA hP hBW hpl
  go_enter Tryz.func38, Tryz.ntmps38
  go_wp2_with ((with_reducible refine at_load_row hmr Tryz.underlying35 rfl ?_ ?_ ?_); (rw [ints_size, hlm]; kernel_rfl); rfl)
  change Calls _ _ _ (w.alloc (.cells (ints (mvL m)) 35)) _
  generalize w.alloc (.cells (ints (mvL m)) 35) = W at *
  refine hfi.out.mono ?_
  rintro e1 w1 ⟨h1, h2, ⟨h3, rfl⟩ | ⟨x, h, h4, rfl, h5, h6⟩⟩
  · have h1 := lay ((Alone.of hBs.out).trans h1)
    clear h2 h3
    go_wp2_with fail
    exact ⟨rfl, h1.out, _, _, rfl⟩
  · exfalso
    simp at h4
theorem zn_rec (g g2 : Nat) (t : TypeId) (v : Value) (w : World) (hg : PosAt pos00 g w) (h2 : w.heap[g2]? = some (.cells #[.bool false] 4 (0, 0))) (hne : g ≠ g2) :
    CallsD Tryz.prog 42 #[.pointer (some ⟨g, 0, none⟩), .pointer (some ⟨g2, 0, none⟩)] (.panicking [{ v := .iface t v, recovered := false }]) w fun e u' w' => e = .returned (.tuple #[]) ∧ u' = .panicking [{ v := .iface t v, recovered := true }] ∧ w' = (w.setRow g (ints pos00)).setCell ⟨g2, 0, none⟩ (.bool false) := by
  have hg' : w.heap[g]? = some (.cells (ints pos00) 24 (0, 0)) := hg
  have l0 : pos00.length = 69 := by simp [pos00]
  have s2 : (w.setRow g (ints pos00)).heap[g2]? = some (.cells #[.bool false] 4 (0, 0)) := (setRow_other w g g2 (ints pos00) (fun e => hne e.symm)).trans h2
  have k0 : (w.setRow g (ints pos00)).cell? ⟨g2, 0, none⟩ = some (.bool false) := cell_of_row _ _ 0 _ _ _ s2
  have k1 := frozen_of_row (w.setRow g (ints pos00)) g2 0 _ _ s2
  refine callsD_of_wpS Tryz.func42 rfl fun c₀ cs hu => ?_
  apply wpS_seq
  apply wpS_region
  simp [wpOpsS, go_sem, recoverD, hu, Tryz.ntmps42, Exit.thenS]
  refine wpS_cond (t := true) (by simp [Act.eval, Array.replicate]) ?_
  simp only [if_true]
  refine wpS_of_wp ?_
  go_wp2_with ((with_reducible refine at_store_row (ints pos00) hg' ?_ ?_ ?_ ?_ ?_ ?_); (rw [ints_size, l0]; kernel_rfl); (rw [ints_size]); exact ints_one pos00; rfl; rfl)
  simp [bodyPostS, results, Tryz.results42, go_sem]
theorem zn_play (p : List Int) (tn : Nat) (hF : Fair p tn) (h218 : (legalL p).length ≤ 218) (hh : p.getD 67 0 ≤ 1000000) (hf : p.getD 68 0 ≤ 1000000) (m : Mv) (hno : ∀ x ∈ fullE p tn, x.1 ≠ m) (w : World) (hT : Tabs w) (hA : IntSl w 0 .i8 allL) (hP : IntSl w 1 .i8 [2, 3, 4, 5]) :
    Calls Tryz.prog 21 #[.agg (ints p), .agg (ints (mvL m))] w fun e w' => e = .returned (.tuple #[.agg (ints pos00), .bool false]) ∧ Below w.heap.size w w' := by
  have hl := hF.snd.pos.len
  have hmf := makeFunc_run Tryz.prog
  obtain ⟨hr0, hr1, hr2, hr3, hBW, hsz⟩ := zqW_rows w p m
  have hr0' : (zqW w p m).heap[w.heap.size]? = some (.cells (ints p) 24 (0, 0)) := hr0
  have hGb : Shut (∀ V, Below w.heap.size w V → Tabs V ∧ IntSl V 0 .i8 allL ∧ IntSl V 1 .i8 [2, 3, 4, 5]) := fun V hb' => ⟨hT.below hb' (Nat.le_refl _), hA.below hb', hP.below hb'⟩
  have hpz := lay (pz_position p tn hF.snd hh hf (zqW w p m) (hT.below hBW (Nat.le_refl _)) (hA.below hBW))
  have hva := lay (fun (pg bg : Nat) (W : World) h1 h2 h3 h4 h5 h6 => zn_valid p tn hF h218 m hno pg bg W h1 h2 h3 h4 h5 h6)
  have hr1s := lay hr1
  have hr2s := lay hr2
  have hr3s := lay hr3
  have hBs := lay hBW
  have hszs := lay hsz
  clear hT hA hP hF hr1 hr2 hr3 hBW h218 hh hf hno hsz
  go_enter_defers Tryz.func21, Tryz.ntmps21
  go_wp2_with (with_reducible refine at_load_row hr0' Tryz.underlying24 rfl ?_ rfl ?_; (rw [ints_size, hl]; kernel_rfl))
  change Calls _ _ _ (zqW w p m) _
  generalize zqW w p m = W at *
  refine hpz.out.mono ?_
  rintro e1 w1 ⟨v, rfl, pg, bg, rfl, hge, hE, hb1⟩
  have hH1 : Shut (Below (w.heap.size + 4) W w1) := hb1.mono (by have := hszs.out; omega)
  have hB1 := lay (hBs.out.trans (hH1.out.mono (by omega)))
  have hgpg : Shut (w.heap.size + 4 ≤ pg) := by
    show _ ≤ _
    have := hszs.out
    omega
  have hv1 := lay (hva.out pg bg w1 hE.ps hE.bd (eng_ne hE) (hGb.out _ hB1.out).1 (hGb.out _ hB1.out).2.1 (hGb.out _ hB1.out).2.2)
  have hs1 : Shut (w.heap.size + 4 ≤ w1.heap.size) := by
    show _ ≤ _
    have := hb1.size
    have := hszs.out
    omega
  have m1 : w1.heap[w.heap.size + 1]? = some (.cells (ints (mvL m)) 35 (0, 0)) := (hH1.out.block _ (by omega)).trans hr1s.out
  have hlm : (mvL m).length = 3 := rfl
  clear hb1 hE hge hr0 hr0'
  go_wp2_with ((with_reducible refine at_load_row m1 Tryz.underlying35 rfl ?_ ?_ ?_); (rw [ints_size, hlm]; kernel_rfl); rfl)
  refine hv1.out.mono ?_
  rintro e2 w2 ⟨ha2, t, v2, rfl⟩
  have hH2 := lay (ha2.below hgpg.out hs1.out hH1.out)
  have hB2 := lay (hBs.out.trans (hH2.out.mono (by omega)))
  have q1 : PosAt pos00 (w.heap.size + 1 + 1) w2 := (hH2.out.block _ (by omega)).trans hr2s.out
  have q2 : w2.heap[w.heap.size + 1 + 1 + 1]? = some (.cells #[.bool false] 4 (0, 0)) := (hH2.out.block (w.heap.size + 1 + 1 + 1) (by omega)).trans hr3s.out
  have l0 : pos00.length = 69 := by simp [pos00]
  refine leaves_cons (f := 42) (args := #[.pointer (some ⟨w.heap.size + 1 + 1, 0, none⟩), .pointer (some ⟨w.heap.size + 1 + 1 + 1, 0, none⟩)]) (by simp) (by simp [go_sem]) ?_
  refine (zn_rec _ _ t v2 w2 q1 q2 (by omega)).mono ?_
  rintro e u' w'' ⟨rfl, rfl, rfl⟩
  have s2 : (w2.setRow (w.heap.size + 1 + 1) (ints pos00)).heap[w.heap.size + 1 + 1 + 1]? = some (.cells #[.bool false] 4 (0, 0)) := (setRow_other w2 (w.heap.size + 1 + 1) (w.heap.size + 1 + 1 + 1) (ints pos00) (by omega)).trans q2
  have s1 : (w2.setRow (w.heap.size + 1 + 1) (ints pos00)).heap[w.heap.size + 1 + 1]? = some (.cells (ints pos00) 24 (0, 0)) := setRow_heap _ _ _ (ints pos00) _ _ q1
  have t1 : PosAt pos00 (w.heap.size + 1 + 1) ((w2.setRow (w.heap.size + 1 + 1) (ints pos00)).setCell ⟨w.heap.size + 1 + 1 + 1, 0, none⟩ (.bool false)) := (heap_setCell_other _ _ _ _ (by show w.heap.size + 1 + 1 ≠ w.heap.size + 1 + 1 + 1; omega)).trans s1
  have t2 : ((w2.setRow (w.heap.size + 1 + 1) (ints pos00)).setCell ⟨w.heap.size + 1 + 1 + 1, 0, none⟩ (.bool false)).cell? ⟨w.heap.size + 1 + 1 + 1, 0, none⟩ = some (.bool false) := cell_of_row _ _ 0 _ _ _ (heap_setCell_same _ _ 0 _ _ (.bool false) s2)
  have hB5 := below_setRow' hB2.out (g := w.heap.size + 1 + 1) (by omega) (ints pos00)
  exact ⟨_, zq_results rfl _ _ pos00 l0 (w.heap.size + 1 + 1) (w.heap.size + 1 + 1 + 1) false rfl t1 rfl t2, rfl, hB5.setCell (p := ⟨w.heap.size + 1 + 1 + 1, 0, none⟩) (by show w.heap.size ≤ w.heap.size + 1 + 1 + 1; omega) _⟩
end Go.Proofs.YtnjdgooljnbebaaGreatDoor
namespace Go.Proofs.YtnjdgooljnbebaaGreatDoor
open Go Go.RowKit
open List renaming getElem_toArray → zA, getElem_cons_zero → zB, getElem_cons_succ → zC, setIfInBounds_toArray → zD, set_cons_zero → zE, set_cons_succ → zF
set_option maxHeartbeats 8000000
set_option linter.unusedSimpArgs false
set_option linter.unusedVariables false
set_option maxRecDepth 100000

theorem take_step (l : List Mv) (m : Mv) (k : Nat) (h : k < l.length) (hne : l.getD k ⟨0, 0, 0⟩ ≠ m) (hk : m ∉ l.take k) : m ∉ l.take (k + 1) := by
  rw [List.take_succ_eq_append_getElem h]
  intro hm
  rcases List.mem_append.1 hm with h1 | h1
  · exact hk h1
  · rw [List.mem_singleton] at h1
    apply hne
    rw [h1]
    simp [h]
theorem zi_is (p : List Int) (tn : Nat) (hs : Sound p tn) (hh : p.getD 67 0 ≤ 1000000) (hf : p.getD 68 0 ≤ 1000000) (h218 : (legalL p).length ≤ 218) (m : Mv) (b : Bool) (hb : decide (m ∈ legalL p) = b) (w : World) :
    Calls Tryz.prog 22 #[.agg (ints p), .agg (ints (mvL m))] w fun e w' => e = .returned (.bool b) ∧ Below w.heap.size w w' := by
  have hl := hs.pos.len
  have hBW : Below w.heap.size w ((w.alloc (.cells (ints p) 24)).alloc (.cells (ints (mvL m)) 35)) := ((Below.refl _ _).alloc (Nat.le_refl _) _).alloc (by simp) _
  have hrow : ((w.alloc (.cells (ints p) 24)).alloc (.cells (ints (mvL m)) 35)).heap[w.heap.size]? = some (.cells (ints p) 24 (0, 0)) := (heap_alloc_old _ _ (by simp)).trans (heap_alloc_new w _)
  have hmr : ((w.alloc (.cells (ints p) 24)).alloc (.cells (ints (mvL m)) 35)).heap[w.heap.size + 1]? = some (.cells (ints (mvL m)) 35 (0, 0)) := by
    have := heap_alloc_new (w.alloc (.cells (ints p) 24)) (.cells (ints (mvL m)) 35)
    rwa [World.size_alloc] at this
  have hL := lay (fun W => lg_legal p hs.pos tn hs.turn hs.one hs.ca0 hs.ca1 hs.ep hs.hf hh (by have := hs.fu; omega) hf (by rw [hs.turn]; exact hs.king) W)
  have hBs := lay hBW
  have hms := lay hmr
  have hln := lay h218
  have hbs := lay hb
  clear hs hh hf h218 hBW hmr hb
  go_enter Tryz.func22, Tryz.ntmps22
  go_wp2_with ((with_reducible refine at_load_row hrow Tryz.underlying24 rfl ?_ ?_ ?_); (rw [ints_size, hl]; kernel_rfl); rfl)
  change Calls _ _ _ ((w.alloc (.cells (ints p) 24)).alloc (.cells (ints (mvL m)) 35)) _
  have hWz : Shut (w.heap.size + 1 < ((w.alloc (.cells (ints p) 24)).alloc (.cells (ints (mvL m)) 35)).heap.size) := by
    show _ < _
    simp
  generalize (w.alloc (.cells (ints p) 24)).alloc (.cells (ints (mvL m)) 35) = W at *
  refine (hL.out W).mono ?_
  rintro e1 w1 ⟨v, l, rfl, hperm, hown, hb1⟩
  obtain ⟨a, c, rfl, hform⟩ := mvs_slice hown
  have hm1 : w1.heap[w.heap.size + 1]? = some (.cells (ints (mvL m)) 35 (0, 0)) := (hb1.block _ hWz.out).trans hms.out
  have hRm : Shut (∀ V, Below w1.heap.size w1 V → V.rangeAt (w.heap.size + 1) 0 ((mvL m).map (Value.int .i64))) := fun V hV => range_of_row ((hV.block _ (Array.getElem?_eq_some_iff.1 hm1).1).trans hm1)
  have hB1 := lay (hBs.out.trans (hb1.mono hBs.out.size))
  have hll : l.length ≤ 218 := by rw [hperm.length_eq]; exact hln.out
  have hmem : Shut (decide (m ∈ l) = b) := by
    show _ = _
    rw [← hbs.out]
    exact decide_eq_decide.2 hperm.mem_iff
  have hons := lay hown
  have hform := lay hform
  clear hb1 hrow hm1 hown hperm
  go_wp2_with fail
  go_loopw [6] (fun i wr => ∃ k : Nat, k ≤ l.length ∧ i = .int .i64 (k : Int) ∧ m ∉ l.take k ∧ Below w1.heap.size w1 wr) (fun i _ => ((l.length : Int) - intOf i).toNat)
  case atStart => exact ⟨0, by omega, rfl, by simp, Below.refl _ _⟩
  case round =>
    obtain ⟨k, hk, rfl, hno, hb⟩ := hrel
    by_cases hlt : k < l.length
    · obtain ⟨g, rfl⟩ := hform.out (by omega)
      have hra : Shut (∀ V, Below w1.heap.size w1 V → V.rangeAt g (k * 3) ((mvL (l.getD k ⟨0, 0, 0⟩)).map (Value.int .i64))) := by
        intro V hV
        have h1 := (own_row (own_next hons.out hV)).range k hlt
        rw [Nat.mul_comm] at h1
        exact h1
      have hmemk : l.getD k ⟨0, 0, 0⟩ ∈ l := by simp [hlt]
      have hstep : Shut (l.getD k ⟨0, 0, 0⟩ ≠ m → m ∉ l.take (k + 1)) := fun hne => take_step l m k hlt hne hno
      have hbs2 := lay hb
      have hltz : (k : Int) < (l.length : Int) := by omega
      have hk0 : (0 : Int) ≤ (k : Int) := by omega
      clear hno hb
      obtain ⟨y, hy⟩ : ∃ y, l.getD k ⟨0, 0, 0⟩ = y := ⟨_, rfl⟩
      rw [hy] at hra hmemk hstep
      clear hy
      by_cases hym : y = m
      · have hEq : ∀ V, (Op.equalIn 10000 35 (.agg (List.map (Value.int .i64) (mvL y)).toArray) (.agg (List.map (Value.int .i64) (mvL m)).toArray)).run Tryz.prog V = .ok true V := fun V => by
          have h1 := ye_eq y m V
          rw [decide_eq_true hym] at h1
          exact h1
        have hT : Shut (b = true) := by
          show _ = _
          rw [← hmem.out, decide_eq_true_eq, ← hym]
          exact hmemk
        clear hym hmemk
        go_wp2_with fail
        refine wp_region_held_drew (S := fun V : World => Below w1.heap.size w1 V) (by kernel_rfl) hbs2.out.drew (fun hHeld => ?_)
        refine takeA (i := 0) (v := ?vzia1_0) rfl (Or.inl ⟨by rfl, ?yzia1_0⟩) hHeld ?rzia1_0
        case yzia1_0 => (intro wq hSw; clear hSw; go_simp; try with_reducible rfl)
        try simp only [zA, zB, zC, Act.put, zD, zE, zF]
        refine takeA (i := 1) (v := ?vzia2_1) rfl (Or.inl ⟨by rfl, ?yzia2_1⟩) hHeld ?rzia2_1
        case yzia2_1 => (intro wq hSw; clear hSw; go_simp; try with_reducible rfl)
        try simp only [zA, zB, zC, Act.put, zD, zE, zF]
        refine takeA (i := 2) (v := ?vzia3_2) rfl (Or.inl ⟨by rfl, ?yzia3_2⟩) hHeld ?rzia3_2
        case yzia3_2 => (intro wq hSw; clear hSw; go_simp; try with_reducible rfl)
        try simp only [zA, zB, zC, Act.put, zD, zE, zF]
        refine' takeA (i := 3) (v := _) rfl (yieldsIf_load_mid (by rfl) _ _ rfl _ _ rfl _ _ (fun _ h => hra.out _ h) Tryz.underlying35 rfl (by kernel_rfl)) hHeld ?_
        try simp only [zA, zB, zC, Act.put, zD, zE, zF]
        refine' takeA (i := 4) (v := _) rfl (yieldsIf_load_mid (by rfl) _ _ rfl _ _ rfl _ _ (fun _ h => hRm.out _ h) Tryz.underlying35 rfl (by kernel_rfl)) hHeld ?_
        try simp only [zA, zB, zC, Act.put, zD, zE, zF]
        refine takeA (i := 5) (v := ?vzia6_5) rfl (Or.inl ⟨by rfl, ?yzia6_5⟩) hHeld ?rzia6_5
        case yzia6_5 => (intro wq hSw; clear hSw; go_simp; try with_reducible rfl)
        try simp only [zA, zB, zC, Act.put, zD, zE, zF]
        refine wpAnyH_done (by kernel_rfl) ?_ _
        have hfin := lay hHeld
        clear hHeld
        go_wp2_with fail
        go_ret
        exact ⟨by rw [hT.out]; rfl, hB1.out.trans (hfin.out.mono hB1.out.size)⟩
      · have hEq : ∀ V, (Op.equalIn 10000 35 (.agg (List.map (Value.int .i64) (mvL y)).toArray) (.agg (List.map (Value.int .i64) (mvL m)).toArray)).run Tryz.prog V = .ok false V := fun V => by
          have h1 := ye_eq y m V
          rw [decide_eq_false hym] at h1
          exact h1
        have hst := lay (hstep.out hym)
        clear hym hmemk
        go_wp2_with fail
        refine wp_region_held_drew (S := fun V : World => Below w1.heap.size w1 V) (by kernel_rfl) hbs2.out.drew (fun hHeld => ?_)
        refine takeA (i := 0) (v := ?vzib1_0) rfl (Or.inl ⟨by rfl, ?yzib1_0⟩) hHeld ?rzib1_0
        case yzib1_0 => (intro wq hSw; clear hSw; go_simp; try with_reducible rfl)
        try simp only [zA, zB, zC, Act.put, zD, zE, zF]
        refine takeA (i := 1) (v := ?vzib2_1) rfl (Or.inl ⟨by rfl, ?yzib2_1⟩) hHeld ?rzib2_1
        case yzib2_1 => (intro wq hSw; clear hSw; go_simp; try with_reducible rfl)
        try simp only [zA, zB, zC, Act.put, zD, zE, zF]
        refine takeA (i := 2) (v := ?vzib3_2) rfl (Or.inl ⟨by rfl, ?yzib3_2⟩) hHeld ?rzib3_2
        case yzib3_2 => (intro wq hSw; clear hSw; go_simp; try with_reducible rfl)
        try simp only [zA, zB, zC, Act.put, zD, zE, zF]
        refine' takeA (i := 3) (v := _) rfl (yieldsIf_load_mid (by rfl) _ _ rfl _ _ rfl _ _ (fun _ h => hra.out _ h) Tryz.underlying35 rfl (by kernel_rfl)) hHeld ?_
        try simp only [zA, zB, zC, Act.put, zD, zE, zF]
        refine' takeA (i := 4) (v := _) rfl (yieldsIf_load_mid (by rfl) _ _ rfl _ _ rfl _ _ (fun _ h => hRm.out _ h) Tryz.underlying35 rfl (by kernel_rfl)) hHeld ?_
        try simp only [zA, zB, zC, Act.put, zD, zE, zF]
        refine takeA (i := 5) (v := ?vzib6_5) rfl (Or.inl ⟨by rfl, ?yzib6_5⟩) hHeld ?rzib6_5
        case yzib6_5 => (intro wq hSw; clear hSw; go_simp; try with_reducible rfl)
        try simp only [zA, zB, zC, Act.put, zD, zE, zF]
        refine wpAnyH_done (by kernel_rfl) ?_ _
        have hfin := lay hHeld
        clear hHeld
        go_wp2_with fail
        go_roundw
        case rel => exact ⟨k + 1, by omega, by go_num, hst.out, hfin.out⟩
        case measure => simp [intOf]; omega
    · have hkl : k = l.length := by omega
      have hF : Shut (b = false) := by
        show _ = _
        rw [← hmem.out, decide_eq_false_iff_not]
        rw [hkl, List.take_length] at hno
        exact hno
      have hbf := lay (hB1.out.trans (hb.mono hB1.out.size))
      subst hkl
      clear hb hno
      go_wp2_with fail
      go_ret
      exact ⟨by rw [hF.out]; rfl, hbf.out⟩
end Go.Proofs.YtnjdgooljnbebaaGreatDoor
namespace Go.Proofs.YtnjdgooljnbebaaGreatDoor
open Go Go.RowKit
open List renaming getElem_toArray → zA, getElem_cons_zero → zB, getElem_cons_succ → zC, setIfInBounds_toArray → zD, set_cons_zero → zE, set_cons_succ → zF
set_option maxHeartbeats 8000000
set_option linter.unusedSimpArgs false
set_option linter.unusedVariables false
set_option maxRecDepth 100000

theorem zl_law (p ml : List Int) (hl : p.length = 69) (hml : ml.length = 3) (w : World) (hfi : IntTab w 7 .u64 (tabZ bbFilesL)) (hra : IntTab w 6 .u64 (tabZ bbRanksL)) (hdi : IntTab w 4 .u64 (tabZ bbDiagonalsL)) (han : IntTab w 5 .u64 (tabZ bbAntiDiagonalsL)) (hkn : IntTab w 2 .u64 (tabZ bbKnightMovesL)) (hki : IntTab w 3 .u64 (tabZ bbKingMovesL)) (hA : IntSl w 0 .i8 allL) (hP : IntSl w 1 .i8 [2, 3, 4, 5]) :
    Calls Tryz.prog 7 #[.agg (ints p), .agg (ints ml)] w fun e w' => e = .returned (.bool true) ∧ Below w.heap.size w w' := by
  obtain ⟨m, rfl⟩ : ∃ m : Mv, ml = mvL m := by
    match ml, hml with
    | [a, b, c], _ => exact ⟨⟨a, b, c⟩, rfl⟩
  have hlm : (mvL m).length = 3 := rfl
  clear hml
  have hT : Tabs w := ⟨hki, hkn, hdi, han, hfi, hra⟩
  clear hfi hra hdi han hkn hki
  have hBW : Below w.heap.size w ((w.alloc (.cells (ints p) 24)).alloc (.cells (ints (mvL m)) 35)) := ((Below.refl _ _).alloc (Nat.le_refl _) _).alloc (by simp) _
  have hrow : ((w.alloc (.cells (ints p) 24)).alloc (.cells (ints (mvL m)) 35)).heap[w.heap.size]? = some (.cells (ints p) 24 (0, 0)) := (heap_alloc_old _ _ (by simp)).trans (heap_alloc_new w _)
  have hmr : ((w.alloc (.cells (ints p) 24)).alloc (.cells (ints (mvL m)) 35)).heap[w.heap.size + 1]? = some (.cells (ints (mvL m)) 35 (0, 0)) := by
    have := heap_alloc_new (w.alloc (.cells (ints p) 24)) (.cells (ints (mvL m)) 35)
    rwa [World.size_alloc] at this
  have hWz : Shut (((w.alloc (.cells (ints p) 24)).alloc (.cells (ints (mvL m)) 35)).heap.size = w.heap.size + 2) := by
    show _ = _
    simp
  have hRt := lay (fun W => rt_right p hl W)
  have hBs := lay hBW
  have hms := lay hmr
  have hrs := lay hrow
  have hGb : Shut (∀ V, Below w.heap.size w V → Tabs V ∧ IntSl V 0 .i8 allL ∧ IntSl V 1 .i8 [2, 3, 4, 5]) := fun V hb' => ⟨hT.below hb' (Nat.le_refl _), hA.below hb', hP.below hb'⟩
  clear hT hA hP hBW hmr
  cases hask : askedB p with
  | false =>
    have hasks := lay hask
    clear hask
    go_enter Tryz.func7, Tryz.ntmps7
    go_wp2_with ((with_reducible refine at_load_row hrow Tryz.underlying24 rfl ?_ ?_ ?_); (rw [ints_size, hl]; kernel_rfl); rfl)
    change Calls _ _ _ ((w.alloc (.cells (ints p) 24)).alloc (.cells (ints (mvL m)) 35)) _
    generalize (w.alloc (.cells (ints p) 24)).alloc (.cells (ints (mvL m)) 35) = W at *
    refine (hRt.out _).mono ?_
    rintro e1 w1 ⟨rfl, hb1⟩
    rw [hasks.out]
    have hbf := lay (hBs.out.trans (hb1.mono hBs.out.size))
    clear hb1 hrow
    go_wp2_with fail
    go_ret
    exact ⟨rfl, hbf.out⟩
  | true =>
    obtain ⟨tn, hF⟩ := fair_of p hl (askedB_valid hask)
    have h67 := askedB_hf hask
    have h68 := askedB_fu hask
    have h218 := askedB_lg hask
    have hasks := lay hask
    have hIs := lay (fun (b : Bool) hb (W : World) => zi_is p tn hF.snd (by omega) (by omega) h218 m b hb W)
    have hMa := lay (fun (hm : MvOk m) (W : World) => me_made p hF.snd.pos m hm (by rw [hF.snd.turn]; omega) (by rw [hF.snd.turn]; have := hF.snd.one; omega) hF.snd.ca0 hF.snd.ca1 hF.snd.hf (by omega) (by have := hF.snd.fu; omega) (by omega) (mdF_far p m hm 67 (by omega)) (mdH_far p m hm) W)
    have hPl : Shut (∀ W : World, Tabs W → IntSl W 0 .i8 allL → IntSl W 1 .i8 [2, 3, 4, 5] → Calls Tryz.prog 21 #[.agg (ints p), .agg (ints (mvL m))] W fun e w' => e = .returned (.tuple #[.agg (ints (if m ∈ legalL p then madeB p m else pos00)), .bool (decide (m ∈ legalL p))]) ∧ Below W.heap.size W w') := by
      intro W hT hA hP
      by_cases hm : m ∈ legalL p
      · obtain ⟨x, hx, rfl⟩ := List.mem_map.1 ((full_perm p tn hF).mem_iff.2 hm)
        obtain ⟨kt, hkt⟩ := List.mem_iff_getElem?.1 hx
        rw [if_pos hm, decide_eq_true hm]
        exact zq_play p tn hF h218 (by omega) (by omega) kt x hkt W hT hA hP
      · rw [if_neg hm, decide_eq_false hm]
        exact zn_play p tn hF h218 (by omega) (by omega) m (fun x hx e => hm ((full_perm p tn hF).mem_iff.1 (List.mem_map.2 ⟨x, hx, e⟩))) W hT hA hP
    have hok : Shut (m ∈ legalL p → MvOk m) := fun hm => by
      obtain ⟨x, hx, rfl⟩ := List.mem_map.1 ((full_perm p tn hF).mem_iff.2 hm)
      exact full_ok p tn hF x hx
    have hlq : (if m ∈ legalL p then madeB p m else pos00).length = 69 := by
      split
      · exact madeB_len p m hl
      · simp [pos00]
    clear hask hF h67 h68 h218
    go_enter Tryz.func7, Tryz.ntmps7
    go_wp2_with ((with_reducible refine at_load_row hrow Tryz.underlying24 rfl ?_ ?_ ?_); (rw [ints_size, hl]; kernel_rfl); rfl)
    change Calls _ _ _ ((w.alloc (.cells (ints p) 24)).alloc (.cells (ints (mvL m)) 35)) _
    generalize (w.alloc (.cells (ints p) 24)).alloc (.cells (ints (mvL m)) 35) = W at *
    refine (hRt.out _).mono ?_
    rintro e1 w1 ⟨rfl, hb1⟩
    rw [hasks.out]
    have r1 : w1.heap[w.heap.size]? = some (.cells (ints p) 24 (0, 0)) := (hb1.block _ (by have := hWz.out; omega)).trans hrs.out
    have m1 : w1.heap[w.heap.size + 1]? = some (.cells (ints (mvL m)) 35 (0, 0)) := (hb1.block _ (by have := hWz.out; omega)).trans hms.out
    have hB1 := lay (hBs.out.trans (hb1.mono hBs.out.size))
    have hz1 : Shut (w.heap.size + 2 ≤ w1.heap.size) := by
      show _ ≤ _
      have := hb1.size
      have := hWz.out
      omega
    have hp1 := lay (hPl.out w1 (hGb.out _ hB1.out).1 (hGb.out _ hB1.out).2.1 (hGb.out _ hB1.out).2.2)
    have r1s := lay r1
    have m1s := lay m1
    clear hb1 hrow
    go_wp2_with (first
      | ((with_reducible refine at_load_row r1 Tryz.underlying24 rfl ?_ ?_ ?_); (rw [ints_size, hl]; kernel_rfl); rfl)
      | ((with_reducible refine at_load_row m1 Tryz.underlying35 rfl ?_ ?_ ?_); (rw [ints_size, hlm]; kernel_rfl); rfl))
    refine hp1.out.mono ?_
    rintro e2 w2 ⟨rfl, hb2⟩
    obtain ⟨q, hq⟩ : ∃ q, (if m ∈ legalL p then madeB p m else pos00) = q := ⟨_, rfl⟩
    obtain ⟨bl, hbl⟩ : ∃ b, decide (m ∈ legalL p) = b := ⟨_, rfl⟩
    rw [hq, hbl]
    rw [hq] at hlq
    have hqs := lay hq
    have hbls := lay hbl
    have hIs1 := lay (fun W => hIs.out bl hbl W)
    have r2 : w2.heap[w.heap.size]? = some (.cells (ints p) 24 (0, 0)) := (hb2.block _ (by have := hz1.out; omega)).trans r1s.out
    have m2 : w2.heap[w.heap.size + 1]? = some (.cells (ints (mvL m)) 35 (0, 0)) := (hb2.block _ (by have := hz1.out; omega)).trans m1s.out
    have hB2 := lay (hB1.out.trans (hb2.mono hB1.out.size))
    have r2s := lay r2
    have m2s := lay m2
    have hz2 : Shut (w.heap.size + 2 ≤ w2.heap.size) := Nat.le_trans hz1.out hb2.size
    clear hb2 r1 m1 hq hbl r2 m2
    go_upto_region 4 with ((with_reducible refine at_new_row (ints q) ?_ ?_ ?_ ?_ ?_ ?_); (rw [ints_size, hlq]; kernel_rfl); (rw [ints_size, hlq]; kernel_rfl); exact ints_one _; rfl; rfl; intro W4 rG4 hC4)
    have r4 : W4.heap[w.heap.size]? = some (.cells (ints p) 24 (0, 0)) := (hC4.block _ (by have := hz2.out; omega)).trans r2s.out
    have m4 : W4.heap[w.heap.size + 1]? = some (.cells (ints (mvL m)) 35 (0, 0)) := (hC4.block _ (by have := hz2.out; omega)).trans m2s.out
    have hB4 := lay (hB2.out.trans (hC4.mono hB2.out.size))
    have hz4 : Shut (w.heap.size + 2 ≤ W4.heap.size) := Nat.le_trans hz2.out hC4.size
    have r4s := lay r4
    have m4s := lay m4
    have g4s := lay rG4
    clear hC4 rG4
    go_wp2_with (first
      | ((with_reducible refine at_load_row r4 Tryz.underlying24 rfl ?_ ?_ ?_); (rw [ints_size, hl]; kernel_rfl); rfl)
      | ((with_reducible refine at_load_row m4 Tryz.underlying35 rfl ?_ ?_ ?_); (rw [ints_size, hlm]; kernel_rfl); rfl))
    refine (hIs1.out _).mono ?_
    rintro e5 w5 ⟨rfl, hb5⟩
    have hB5 := lay (hB4.out.trans (hb5.mono hB4.out.size))
    have hRp : Shut (∀ V, Below w5.heap.size w5 V → PosAt p w.heap.size V) := fun V hV => (hV.block _ (by have := hz4.out; have := hb5.size; omega)).trans ((hb5.block _ (by have := hz4.out; omega)).trans r4s.out)
    have hRm : Shut (∀ V, Below w5.heap.size w5 V → V.rangeAt (w.heap.size + 1) 0 ((mvL m).map (Value.int .i64))) := fun V hV => range_of_row ((hV.block _ (by have := hz4.out; have := hb5.size; omega)).trans ((hb5.block _ (by have := hz4.out; omega)).trans m4s.out))
    have hg2 := (Array.getElem?_eq_some_iff.1 g4s.out).1
    have hRq : Shut (∀ V, Below w5.heap.size w5 V → PosAt q w2.heap.size V) := fun V hV => (hV.block _ (by have := hb5.size; omega)).trans ((hb5.block _ hg2).trans g4s.out)
    clear hb5 r4 m4 hg2
    cases bl with
    | false =>
      go_wp2_with fail
      go_ret
      exact ⟨rfl, hB5.out⟩
    | true =>
      have hm : m ∈ legalL p := of_decide_eq_true hbls.out
      have hqm : Shut (madeB p m = q) := by
        show _ = _
        rw [← hqs.out, if_pos hm]
      have hma := lay (fun W => hMa.out (hok.out hm) W)
      rw [hqm.out] at hma
      have hEq : ∀ V, (Op.equalIn 10000 24 (.agg (List.map (Value.int .i64) q).toArray) (.agg (ints q))).run Tryz.prog V = .ok true V := fun V => by
        have h1 := ep_eq q q hlq hlq V
        rw [decide_eq_true rfl] at h1
        exact h1
      clear hm
      go_wp2_with fail
      refine wp_region_held_drew (S := fun V : World => Below w5.heap.size w5 V) (by kernel_rfl) ((Below.refl _ _).drew) (fun hHeld => ?_)
      refine takeA (i := 0) (v := ?vzl_1_0) rfl (Or.inl ⟨by rfl, ?yzl_1_0⟩) hHeld ?rzl_1_0
      case yzl_1_0 => (intro wq hSw; clear hSw; go_simp; try with_reducible rfl)
      try simp only [zA, zB, zC, Act.put, zD, zE, zF]
      refine takeA (i := 1) (v := ?vzl_2_1) rfl (Or.inl ⟨by rfl, ?yzl_2_1⟩) hHeld ?rzl_2_1
      case yzl_2_1 => (intro wq hSw; clear hSw; go_simp; try with_reducible rfl)
      try simp only [zA, zB, zC, Act.put, zD, zE, zF]
      refine' takeA (i := 2) (v := _) rfl (yieldsIf_load_mid (by rfl) _ _ rfl _ _ rfl _ _ (fun _ h => (hRq.out _ h).range) Tryz.underlying24 rfl (pos_info q hlq)) hHeld ?_
      try simp only [zA, zB, zC, Act.put, zD, zE, zF]
      refine' takeA (i := 3) (v := _) rfl (yieldsIf_load_mid (by rfl) _ _ rfl _ _ rfl _ _ (fun _ h => (hRp.out _ h).range) Tryz.underlying24 rfl (pos_info p hl)) hHeld ?_
      try simp only [zA, zB, zC, Act.put, zD, zE, zF]
      refine' takeA (i := 4) (v := _) rfl (yieldsIf_load_mid (by rfl) _ _ rfl _ _ rfl _ _ (fun _ h => hRm.out _ h) Tryz.underlying35 rfl (by kernel_rfl)) hHeld ?_
      try simp only [zA, zB, zC, Act.put, zD, zE, zF]
      refine wpAnyH_ready (rs := [5]) (by kernel_rfl) (by simp) ?_
      refine AllReadyH.cons rfl (fun K hK => ?_) AllReadyH.nil
      try simp only [zA, zB, zC, Act.put, zD, zE, zF]
      try rw [if_pos (by rfl)]
      go_simp
      refine (hma.out _).mono ?_
      rintro e6 w6 ⟨rfl, hb6⟩
      go_wp2_with fail
      refine hK.out _ _ (hHeld.trans (hb6.mono hHeld.size)) (fun hHeld => ?_)
      clear hK K
      try simp only [zA, zB, zC, Act.put, zD, zE, zF]
      refine takeA (i := 6) (v := ?vzl_6_6) rfl (Or.inl ⟨by rfl, ?yzl_6_6⟩) hHeld ?rzl_6_6
      case yzl_6_6 => (intro wq hSw; clear hSw; go_simp; try with_reducible rfl)
      try simp only [zA, zB, zC, Act.put, zD, zE, zF]
      refine takeA (i := 7) (v := ?vzl_7_7) rfl (Or.inl ⟨by rfl, ?yzl_7_7⟩) hHeld ?rzl_7_7
      case yzl_7_7 => (intro wq hSw; clear hSw; go_simp; try with_reducible rfl)
      try simp only [zA, zB, zC, Act.put, zD, zE, zF]
      refine takeA (i := 8) (v := ?vzl_8_8) rfl (Or.inl ⟨by rfl, ?yzl_8_8⟩) hHeld ?rzl_8_8
      case yzl_8_8 => (intro wq hSw; clear hSw; go_simp; try with_reducible rfl)
      try simp only [zA, zB, zC, Act.put, zD, zE, zF]
      refine wpAnyH_done (by kernel_rfl) ?_ _
      have hfin := lay hHeld
      clear hHeld
      go_wp2_with fail
      go_ret
      exact ⟨rfl, hB5.out.trans (hfin.out.mono hB5.out.size)⟩
end Go.Proofs.YtnjdgooljnbebaaGreatDoor
