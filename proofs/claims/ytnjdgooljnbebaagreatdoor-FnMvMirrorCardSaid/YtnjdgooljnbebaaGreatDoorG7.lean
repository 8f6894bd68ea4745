/- The engine's list of moves with their tags, as a word; how long its beginnings are. The plain law.
The engine's list of moves is the legal ones' list in another order. The plain law.
The engine's list of moves is the legal ones' list in another order (castling aside). The plain law. -/
import Derived.Test.YtnjdgooljnbebaaGreatDoorGl
namespace Go.Proofs.YtnjdgooljnbebaaGreatDoor
open Go Go.RowKit
set_option maxHeartbeats 4000000
set_option linter.unusedVariables false

def tg0 : Tg := ⟨false, false, false, false, false, false⟩
/-- The tags behind the n-th piece of a promotion: they aren't reset between them. -/
def tgP (p : List Int) (tn a b : Nat) : Nat → Tg
  | 0 => tg0
  | n + 1 => tagsOf p tn (mvAt a b ((n : Int) + 2)) (tgP p tn a b n)
def oneE (p : List Int) (m : Mv) (t : Tg) : List (Mv × Tg) := if keepM p m = true then [(m, t)] else []
def lP (p : List Int) (tn a b : Nat) : Nat → List (Mv × Tg)
  | 0 => []
  | n + 1 => lP p tn a b n ++ oneE p (mvAt a b ((n : Int) + 2)) (tgP p tn a b (n + 1))
def goB (p : List Int) (tn q a b : Nat) : Bool := occ (bbF p q) a && occ (goesB p tn q a) b
theorem goB_iff (p : List Int) (tn q a b : Nat) : goB p tn q a b = true ↔ goSq p tn q a b := by
  unfold goB goSq
  rw [Bool.and_eq_true]
def goE (p : List Int) (tn q a b : Nat) : List (Mv × Tg) :=
  if goB p tn q a b = true then (if isProm q b = true then lP p tn a b 4 else oneE p (mvAt a b 0) (tagsOf p tn (mvAt a b 0) tg0)) else []
def lB (p : List Int) (tn q a : Nat) : Nat → List (Mv × Tg)
  | 0 => []
  | b + 1 => lB p tn q a b ++ goE p tn q a b
def lA (p : List Int) (tn q : Nat) : Nat → List (Mv × Tg)
  | 0 => []
  | a + 1 => lA p tn q a ++ lB p tn q a 64
def qE (p : List Int) (tn q : Nat) : List (Mv × Tg) := if q / 6 = tn then lA p tn q 64 else []
def lQ (p : List Int) (tn : Nat) : Nat → List (Mv × Tg)
  | 0 => []
  | q + 1 => lQ p tn q ++ qE p tn q
/-- The cells of a move in the list. -/
def entK (x : Mv × Tg) : Array Value := mvK (tgN x.2) x.1.fr x.1.to x.1.pr
def ents (l : List (Mv × Tg)) : List (Array Value) := l.map entK
theorem ents_size (l : List (Mv × Tg)) : ∀ c ∈ ents l, c.size = 11 := by
  intro c hc
  obtain ⟨x, _, rfl⟩ := List.mem_map.1 hc
  rfl
theorem ents_one (l : List (Mv × Tg)) : ∀ c ∈ ents l, c.all (·.oneCell') = true := by
  intro c hc
  obtain ⟨x, _, rfl⟩ := List.mem_map.1 hc
  exact mvK_one _ _ _ _
theorem ents_len (l : List (Mv × Tg)) : (flat (ents l)).length = 11 * l.length := by
  rw [flat_len _ (ents_size l)]
  simp [ents]
theorem ents_app (l l' : List (Mv × Tg)) : ents (l ++ l') = ents l ++ ents l' := by simp [ents]
theorem lP_le (p : List Int) (tn a b : Nat) : ∀ d n, (lP p tn a b n).length ≤ (lP p tn a b (n + d)).length
  | 0, n => Nat.le_refl _
  | d + 1, n => by
    have := lP_le p tn a b d n
    rw [← Nat.add_assoc, lP, List.length_append]
    omega
theorem lB_le (p : List Int) (tn q a : Nat) : ∀ d n, (lB p tn q a n).length ≤ (lB p tn q a (n + d)).length
  | 0, n => Nat.le_refl _
  | d + 1, n => by
    have := lB_le p tn q a d n
    rw [← Nat.add_assoc, lB, List.length_append]
    omega
theorem lA_le (p : List Int) (tn q : Nat) : ∀ d n, (lA p tn q n).length ≤ (lA p tn q (n + d)).length
  | 0, n => Nat.le_refl _
  | d + 1, n => by
    have := lA_le p tn q d n
    rw [← Nat.add_assoc, lA, List.length_append]
    omega
theorem lQ_le (p : List Int) (tn : Nat) : ∀ d n, (lQ p tn n).length ≤ (lQ p tn (n + d)).length
  | 0, n => Nat.le_refl _
  | d + 1, n => by
    have := lQ_le p tn d n
    rw [← Nat.add_assoc, lQ, List.length_append]
    omega
/-- The list up to the moves from one square to another. -/
def upTo (p : List Int) (tn k a b : Nat) : List (Mv × Tg) := lQ p tn k ++ lA p tn k a ++ lB p tn k a b
/-- There is room for what comes from one square to another. -/
theorem room_go (p : List Int) (tn k a b : Nat) (hk : k < 12) (hkt : k / 6 = tn) (ha : a < 64) (hb : b < 64) : (upTo p tn k a b).length + (goE p tn k a b).length ≤ (lQ p tn 12).length := by
  unfold upTo
  have h1 := lB_le p tn k a (63 - b) (b + 1)
  have h2 := lA_le p tn k (63 - a) (a + 1)
  have h3 := lQ_le p tn (11 - k) (k + 1)
  rw [show b + 1 + (63 - b) = 64 by omega, lB, List.length_append] at h1
  rw [show a + 1 + (63 - a) = 64 by omega, lA, List.length_append] at h2
  rw [show k + 1 + (11 - k) = 12 by omega, lQ, List.length_append] at h3
  have e : (qE p tn k).length = (lA p tn k 64).length := by unfold qE; rw [if_pos hkt]
  rw [List.length_append, List.length_append]
  omega
theorem room_prom (p : List Int) (tn k a b n : Nat) (hgo : goB p tn k a b = true) (hp : isProm k b = true) (hn : n < 4) (hk : keepM p (mvAt a b ((n : Int) + 2)) = true) : (lP p tn a b n).length + 1 ≤ (goE p tn k a b).length := by
  unfold goE
  rw [hgo, hp, if_pos rfl, if_pos rfl]
  have h := lP_le p tn a b (3 - n) (n + 1)
  rw [show n + 1 + (3 - n) = 4 by omega, lP, List.length_append] at h
  have e : (oneE p (mvAt a b ((n : Int) + 2)) (tgP p tn a b (n + 1))).length = 1 := by unfold oneE; rw [hk]; rfl
  omega
end Go.Proofs.YtnjdgooljnbebaaGreatDoor
namespace Go.Proofs.YtnjdgooljnbebaaGreatDoor
open Go Go.RowKit
set_option maxHeartbeats 8000000
set_option linter.unusedSimpArgs false
set_option linter.unusedVariables false
set_option maxRecDepth 100000

theorem ray_sub (B : Int → Int) (far : Bool) (f r df dr : Int) : ∀ m n, (ray B far f r df dr n m).Sublist (ray (fun _ => 0) far f r df dr n m)
  | 0, n => by simp [ray]
  | m + 1, n => by
    unfold ray
    have ih := ray_sub B far f r df dr m (n + 1)
    by_cases h1 : atSq (f + n * df) (r + n * dr) < 0
    · rw [if_pos h1, if_pos h1]
      exact List.Sublist.refl _
    · rw [if_neg h1, if_neg h1]
      by_cases h2 : far = false
      · rw [if_pos (Or.inl h2), if_pos (Or.inl h2)]
        exact List.Sublist.refl _
      · rw [if_neg (show ¬ (far = false ∨ (fun _ : Int => (0 : Int)) (atSq (f + n * df) (r + n * dr)) ≠ 0) by rintro (h | h); exact h2 h; exact h rfl)]
        by_cases h3 : B (atSq (f + n * df) (r + n * dr)) ≠ 0
        · rw [if_pos (Or.inr h3)]
          exact (List.nil_sublist _).cons_cons _
        · rw [if_neg (by rintro (h | h); exact h2 h; exact h3 h)]
          exact ih.cons_cons _
theorem rays_sub (B : Int → Int) (far : Bool) (f r : Int) : ∀ l : List Int, (rays B far f r l).Sublist (rays (fun _ => 0) far f r l)
  | [] => by simp [rays]
  | [_] => by simp [rays]
  | a :: b :: l => by
    show (ray B far f r a b 1 7 ++ rays B far f r l).Sublist (ray (fun _ => 0) far f r a b 1 7 ++ rays (fun _ => 0) far f r l)
    exact List.Sublist.append (ray_sub B far f r a b 7 1) (rays_sub B far f r l)
def nodupB : List Int → Bool
  | [] => true
  | x :: l => !l.contains x && nodupB l
theorem nodup_of : ∀ l : List Int, nodupB l = true → l.Nodup
  | [], _ => List.nodup_nil
  | x :: l, h => by
    rw [nodupB, Bool.and_eq_true] at h
    refine List.nodup_cons.2 ⟨?_, nodup_of l h.2⟩
    intro hx
    have h1 := h.1
    rw [List.contains_iff_mem.2 hx] at h1
    cases h1
set_option maxRecDepth 1000000 in
theorem reach_free : ∀ s < 64, ∀ k < 6, nodupB (rays (fun _ => 0) (farL ((k : Nat) + 1)) (((s : Nat) : Int) % 8) (((s : Nat) : Int) / 8) (waysL ((k : Nat) + 1))) = true := by decide +kernel
theorem reach_nodup (p : List Int) (s : Nat) (hs : s < 64) (k : Nat) (hk : k < 6) (hx : kindOf (pcAt p s) = (k : Int) + 1) : (reach p s).Nodup := by
  unfold reach
  rw [hx]
  exact (nodup_of _ (reach_free s hs k hk)).sublist (rays_sub _ _ _ _ _)
theorem step_nodup (p : List Int) (tn : Nat) (htn : tn ≤ 1) (s : Nat) (h8 : 8 ≤ s) (h56 : s < 56) (hx : sideOf (pcAt p s) = (tn : Int)) : (stepL p s).Nodup := by
  unfold stepL
  rw [hx, List.nodup_append]
  have e1 : atSq ((s : Int) % 8) ((s : Int) / 8 + upOf (tn : Int)) = s + 8 - 16 * (tn : Int) := by
    unfold atSq upOf
    rw [if_neg (by omega)]
    omega
  refine ⟨?_, ?_, ?_⟩
  · unfold fwdL
    split
    · split
      · rename_i h1 h2
        have e2 : atSq ((s : Int) % 8) ((s : Int) / 8 + 2 * upOf (tn : Int)) = s + 16 - 32 * (tn : Int) := by
          have h3 := h2.1
          unfold atSq upOf
          rw [if_neg (by omega)]
          omega
        rw [e1, e2]
        refine List.nodup_cons.2 ⟨?_, by simp⟩
        rw [List.mem_singleton]
        omega
      · simp
    · simp
  · refine List.Nodup.sublist List.filter_sublist ?_
    show (hitTo (s : Int) (tn : Int) 2).Nodup
    rw [hitTo, hitTo, hitTo, List.nil_append, List.nodup_append]
    refine ⟨?_, ?_, ?_⟩
    · unfold oneSq
      split <;> simp
    · unfold oneSq
      split <;> simp
    · intro a ha b hb e
      rw [one_mem] at ha hb
      have h1 := ha.2
      have h2 := hb.2
      have h3 := ha.1
      have h4 := hb.1
      rw [e, h2] at h1
      unfold atSq upOf at h1 h3 h4
      split at h1 <;> split at h1 <;> omega
  · intro a ha b hb e
    rw [List.mem_filter] at hb
    have hr := hitL_range (s : Int) (tn : Int) b hb.1
    obtain ⟨n, rfl⟩ : ∃ n : Nat, b = (n : Int) := ⟨b.toNat, by omega⟩
    have hh := (hit_mem s n h8 h56 tn htn).1 hb.1
    rw [e, fwd_mem p s n h8 h56 tn htn] at ha
    omega
theorem sqL_nodup (p : List Int) (tn : Nat) (hF : Fair p tn) (a : Nat) (ha : a < 64) (h0 : 1 + 6 * (tn : Int) ≤ p.getD a 0) (h1 : p.getD a 0 ≤ 6 + 6 * (tn : Int)) : (sqL p a).Nodup := by
  have htn := hF.snd.one
  have hsd : sideOf (p.getD a 0) = (tn : Int) := by unfold sideOf; split <;> omega
  unfold sqL
  rw [pcAt_nat]
  by_cases hk : kindOf (p.getD a 0) = 6
  · rw [if_pos hk]
    obtain ⟨r0, r1⟩ := hF.pw a ha hk
    exact step_nodup p tn htn a r0 r1 (by rw [pcAt_nat]; exact hsd)
  · rw [if_neg hk]
    obtain ⟨k, hk6, e⟩ : ∃ k : Nat, k < 6 ∧ kindOf (p.getD a 0) = (k : Int) + 1 := by
      refine ⟨(kindOf (p.getD a 0) - 1).toNat, ?_, ?_⟩
      · unfold kindOf; split <;> omega
      · unfold kindOf; split <;> omega
    exact reach_nodup p a ha k hk6 (by rw [pcAt_nat]; exact e)
end Go.Proofs.YtnjdgooljnbebaaGreatDoor
namespace Go.Proofs.YtnjdgooljnbebaaGreatDoor
open Go Go.RowKit
set_option maxHeartbeats 8000000
set_option linter.unusedSimpArgs false
set_option linter.unusedVariables false
set_option maxRecDepth 100000

theorem mem_oneE {p : List Int} {m : Mv} {t : Tg} {x : Mv × Tg} : x ∈ oneE p m t ↔ x = (m, t) ∧ keepM p m = true := by
  unfold oneE
  split
  · rename_i h
    simp [h]
  · rename_i h
    simp [h]
theorem mem_lP {p : List Int} {tn a b : Nat} {x : Mv × Tg} : ∀ n, x ∈ lP p tn a b n ↔ ∃ i, i < n ∧ x = (mvAt a b ((i : Int) + 2), tgP p tn a b (i + 1)) ∧ keepM p (mvAt a b ((i : Int) + 2)) = true
  | 0 => by simp [lP]
  | n + 1 => by
    rw [lP, List.mem_append, mem_lP n, mem_oneE]
    constructor
    · rintro (⟨i, hi, h⟩ | h)
      · exact ⟨i, by omega, h⟩
      · exact ⟨n, by omega, h⟩
    · rintro ⟨i, hi, h⟩
      by_cases e : i = n
      · subst e; exact Or.inr h
      · exact Or.inl ⟨i, by omega, h⟩
theorem mem_lB {p : List Int} {tn q a : Nat} {x : Mv × Tg} : ∀ n, x ∈ lB p tn q a n ↔ ∃ b, b < n ∧ x ∈ goE p tn q a b
  | 0 => by simp [lB]
  | n + 1 => by
    rw [lB, List.mem_append, mem_lB n]
    constructor
    · rintro (⟨i, hi, h⟩ | h)
      · exact ⟨i, by omega, h⟩
      · exact ⟨n, by omega, h⟩
    · rintro ⟨i, hi, h⟩
      by_cases e : i = n
      · subst e; exact Or.inr h
      · exact Or.inl ⟨i, by omega, h⟩
theorem mem_lA {p : List Int} {tn q : Nat} {x : Mv × Tg} : ∀ n, x ∈ lA p tn q n ↔ ∃ a, a < n ∧ x ∈ lB p tn q a 64
  | 0 => by simp [lA]
  | n + 1 => by
    rw [lA, List.mem_append, mem_lA n]
    constructor
    · rintro (⟨i, hi, h⟩ | h)
      · exact ⟨i, by omega, h⟩
      · exact ⟨n, by omega, h⟩
    · rintro ⟨i, hi, h⟩
      by_cases e : i = n
      · subst e; exact Or.inr h
      · exact Or.inl ⟨i, by omega, h⟩
theorem mem_qE {p : List Int} {tn q : Nat} {x : Mv × Tg} : x ∈ qE p tn q ↔ q / 6 = tn ∧ x ∈ lA p tn q 64 := by
  unfold qE
  split
  · rename_i h; simp [h]
  · rename_i h; simp [h]
theorem mem_lQ {p : List Int} {tn : Nat} {x : Mv × Tg} : ∀ n, x ∈ lQ p tn n ↔ ∃ q, q < n ∧ q / 6 = tn ∧ x ∈ lA p tn q 64
  | 0 => by simp [lQ]
  | n + 1 => by
    rw [lQ, List.mem_append, mem_lQ n, mem_qE]
    constructor
    · rintro (⟨i, hi, h⟩ | h)
      · exact ⟨i, by omega, h⟩
      · exact ⟨n, by omega, h⟩
    · rintro ⟨i, hi, h⟩
      by_cases e : i = n
      · subst e; exact Or.inr h
      · exact Or.inl ⟨i, by omega, h⟩
/-- What an entry from one square to another is. -/
theorem goE_at {p : List Int} {tn q a b : Nat} {x : Mv × Tg} (h : x ∈ goE p tn q a b) : goB p tn q a b = true ∧ ∃ pr : Int, x.1 = mvAt a b pr ∧ ((isProm q b = false ∧ pr = 0) ∨ (isProm q b = true ∧ 2 ≤ pr ∧ pr ≤ 5)) ∧ keepM p x.1 = true := by
  unfold goE at h
  split at h
  · rename_i hgo
    refine ⟨hgo, ?_⟩
    split at h
    · rename_i hp
      obtain ⟨i, hi, rfl, hk⟩ := (mem_lP 4).1 h
      exact ⟨(i : Int) + 2, rfl, Or.inr ⟨hp, by omega, by omega⟩, hk⟩
    · rename_i hp
      obtain ⟨rfl, hk⟩ := mem_oneE.1 h
      exact ⟨0, rfl, Or.inl ⟨by simpa using hp, rfl⟩, hk⟩
  · cases h
theorem mv_eq {a b a' b' : Nat} {pr pr' : Int} (h : mvAt a b pr = mvAt a' b' pr') : a = a' ∧ b = b' ∧ pr = pr' := by
  unfold mvAt at h
  injection h with h1 h2 h3
  exact ⟨by omega, by omega, h3⟩
/-- The moves of the engine's list are those of the rules. -/
theorem lQ_mem (p : List Int) (tn : Nat) (hF : Fair p tn) (m : Mv) : (∃ x ∈ lQ p tn 12, x.1 = m) ↔ m ∈ (pseudoTo p 64).filter (keepM p) := by
  have htn := hF.snd.one
  rw [List.mem_filter, pseudo_goes p tn hF m]
  constructor
  · rintro ⟨x, hx, rfl⟩
    obtain ⟨q, hq, hqt, hx⟩ := (mem_lQ 12).1 hx
    obtain ⟨a, ha, hx⟩ := (mem_lA 64).1 hx
    obtain ⟨b, hb, hx⟩ := (mem_lB 64).1 hx
    obtain ⟨hgo, pr, e, hpr, hk⟩ := goE_at hx
    obtain ⟨hxq, hg⟩ := (goes_iff p tn hF q a b hqt ha hb).1 ((goB_iff _ _ _ _ _).1 hgo)
    exact ⟨⟨a, b, ha, hb, hg, (pm_goes p tn hF q a b hqt ha hb hxq hg _).2 ⟨pr, e, hpr⟩⟩, hk⟩
  · rintro ⟨⟨a, b, ha, hb, hg, hm⟩, hk⟩
    have x0 := hg.x0
    have x1 := hg.x1
    obtain ⟨q, hq⟩ : ∃ q : Nat, p.getD a 0 = (q : Int) + 1 := ⟨(p.getD a 0 - 1).toNat, by omega⟩
    have hqt : q / 6 = tn := by omega
    obtain ⟨pr, rfl, hpr⟩ := (pm_goes p tn hF q a b hqt ha hb hq hg m).1 hm
    have hgo := (goB_iff p tn q a b).2 ((goes_iff p tn hF q a b hqt ha hb).2 ⟨hq, hg⟩)
    have hin : ∃ x ∈ goE p tn q a b, x.1 = mvAt a b pr := by
      unfold goE
      rw [hgo, if_pos rfl]
      rcases hpr with ⟨h1, rfl⟩ | ⟨h1, h2, h3⟩
      · rw [h1, if_neg Bool.false_ne_true]
        exact ⟨_, mem_oneE.2 ⟨rfl, hk⟩, rfl⟩
      · rw [h1, if_pos rfl]
        have e : (((pr - 2).toNat : Nat) : Int) + 2 = pr := by omega
        exact ⟨_, (mem_lP 4).2 ⟨(pr - 2).toNat, by omega, rfl, by rw [e]; exact hk⟩, by rw [e]⟩
    obtain ⟨x, hx, e⟩ := hin
    exact ⟨x, (mem_lQ 12).2 ⟨q, by omega, hqt, (mem_lA 64).2 ⟨a, ha, (mem_lB 64).2 ⟨b, hb, hx⟩⟩⟩, e⟩
theorem map_nodup_app {l l' : List (Mv × Tg)} (h1 : (l.map (·.1)).Nodup) (h2 : (l'.map (·.1)).Nodup) (h : ∀ x ∈ l, ∀ y ∈ l', x.1 ≠ y.1) : ((l ++ l').map (·.1)).Nodup := by
  rw [List.map_append, List.nodup_append]
  refine ⟨h1, h2, ?_⟩
  intro a ha b hb e
  obtain ⟨x, hx, rfl⟩ := List.mem_map.1 ha
  obtain ⟨y, hy, rfl⟩ := List.mem_map.1 hb
  exact h x hx y hy e
theorem oneE_nodup (p : List Int) (m : Mv) (t : Tg) : ((oneE p m t).map (·.1)).Nodup := by
  unfold oneE
  split <;> simp
theorem lP_nodup (p : List Int) (tn a b : Nat) : ∀ n, ((lP p tn a b n).map (·.1)).Nodup
  | 0 => by simp [lP]
  | n + 1 => by
    rw [lP]
    refine map_nodup_app (lP_nodup p tn a b n) (oneE_nodup _ _ _) ?_
    intro x hx y hy e
    obtain ⟨i, hi, rfl, _⟩ := (mem_lP n).1 hx
    obtain ⟨rfl, _⟩ := mem_oneE.1 hy
    have := (mv_eq e).2.2
    omega
theorem goE_nodup (p : List Int) (tn q a b : Nat) : ((goE p tn q a b).map (·.1)).Nodup := by
  unfold goE
  split
  · split
    · exact lP_nodup p tn a b 4
    · exact oneE_nodup _ _ _
  · simp
theorem lB_nodup (p : List Int) (tn q a : Nat) : ∀ n, ((lB p tn q a n).map (·.1)).Nodup
  | 0 => by simp [lB]
  | n + 1 => by
    rw [lB]
    refine map_nodup_app (lB_nodup p tn q a n) (goE_nodup p tn q a n) ?_
    intro x hx y hy e
    obtain ⟨b, hb, hx⟩ := (mem_lB n).1 hx
    obtain ⟨_, pr, e1, _⟩ := goE_at hx
    obtain ⟨_, pr', e2, _⟩ := goE_at hy
    rw [e1, e2] at e
    have := (mv_eq e).2.1
    omega
theorem lB_at {p : List Int} {tn q a : Nat} {x : Mv × Tg} {n : Nat} (h : x ∈ lB p tn q a n) : ∃ (b : Nat) (pr : Int), b < n ∧ x.1 = mvAt a b pr ∧ goB p tn q a b = true := by
  obtain ⟨b, hb, hx⟩ := (mem_lB n).1 h
  obtain ⟨hgo, pr, e1, _⟩ := goE_at hx
  exact ⟨b, pr, hb, e1, hgo⟩
theorem lA_nodup (p : List Int) (tn q : Nat) : ∀ n, ((lA p tn q n).map (·.1)).Nodup
  | 0 => by simp [lA]
  | n + 1 => by
    rw [lA]
    refine map_nodup_app (lA_nodup p tn q n) (lB_nodup p tn q n 64) ?_
    intro x hx y hy e
    obtain ⟨a, ha, hx⟩ := (mem_lA n).1 hx
    obtain ⟨b, pr, _, e1, _⟩ := lB_at hx
    obtain ⟨b', pr', _, e2, _⟩ := lB_at hy
    rw [e1, e2] at e
    have := (mv_eq e).1
    omega
theorem lA_at {p : List Int} {tn q : Nat} {x : Mv × Tg} {n : Nat} (h : x ∈ lA p tn q n) : ∃ (a b : Nat) (pr : Int), a < n ∧ b < 64 ∧ x.1 = mvAt a b pr ∧ goB p tn q a b = true := by
  obtain ⟨a, ha, hx⟩ := (mem_lA n).1 h
  obtain ⟨b, pr, hb, e1, hgo⟩ := lB_at hx
  exact ⟨a, b, pr, ha, hb, e1, hgo⟩
theorem lQ_nodup (p : List Int) (tn : Nat) : ∀ n, ((lQ p tn n).map (·.1)).Nodup
  | 0 => by simp [lQ]
  | n + 1 => by
    rw [lQ]
    refine map_nodup_app (lQ_nodup p tn n) (by unfold qE; split; exact lA_nodup p tn n 64; simp) ?_
    intro x hx y hy e
    obtain ⟨q, hq, _, hx⟩ := (mem_lQ n).1 hx
    obtain ⟨a, b, pr, ha, hb, e1, g1⟩ := lA_at hx
    obtain ⟨a', b', pr', ha', hb', e2, g2⟩ := lA_at (mem_qE.1 hy).2
    rw [e1, e2] at e
    obtain ⟨rfl, rfl, _⟩ := mv_eq e
    have o1 := ((goB_iff _ _ _ _ _).1 g1).1
    have o2 := ((goB_iff _ _ _ _ _).1 g2).1
    unfold bbF at o1 o2
    rw [occ_bb p _ a ha, decide_eq_true_eq] at o1 o2
    omega
theorem promos_nodup (f tq : Int) : ∀ n, (promos f tq n).Nodup
  | 0 => by simp [promos]
  | n + 1 => by
    rw [promos, List.nodup_append]
    refine ⟨promos_nodup f tq n, by simp, ?_⟩
    intro a ha b hb e
    obtain ⟨i, hi, rfl⟩ := (mem_promos f tq a n).1 ha
    rw [List.mem_singleton] at hb
    subst hb
    injection e with _ _ e3
    omega
theorem pmOf_nodup (p : List Int) (f tq : Int) : (pmOf p f tq).Nodup := by
  unfold pmOf
  split
  · simp
  · split
    · simp
    · exact promos_nodup f tq 4
theorem pmOf_at {p : List Int} {f tq : Int} {m : Mv} (h : m ∈ pmOf p f tq) : m.fr = f ∧ m.to = tq := by
  unfold pmOf at h
  split at h
  · cases h
  · split at h
    · rw [List.mem_singleton] at h
      subst h
      exact ⟨rfl, rfl⟩
    · obtain ⟨i, hi, rfl⟩ := (mem_promos f tq m 4).1 h
      exact ⟨rfl, rfl⟩
theorem getD_inj {L : List Int} (h : L.Nodup) {i j : Nat} (hi : i < L.length) (hj : j < L.length) (e : L.getD i 0 = L.getD j 0) : i = j := by
  rw [List.getD_eq_getElem?_getD, List.getD_eq_getElem?_getD, List.getElem?_eq_getElem hi, List.getElem?_eq_getElem hj] at e
  have e' : L[i] = L[j] := e
  have hpw := List.pairwise_iff_getElem.1 h
  rcases Nat.lt_trichotomy i j with hlt | heq | hgt
  · exact absurd e' (hpw i j hi hj hlt)
  · exact heq
  · exact absurd e'.symm (hpw j i hj hi hgt)
theorem pmTo_nodup (p : List Int) (f : Int) (L : List Int) (hL : L.Nodup) : ∀ n, n ≤ L.length → (pmTo p f L n).Nodup
  | 0, _ => by simp [pmTo]
  | n + 1, h => by
    rw [pmTo, List.nodup_append]
    refine ⟨pmTo_nodup p f L hL n (by omega), pmOf_nodup _ _ _, ?_⟩
    intro a ha b hb e
    obtain ⟨i, hi, ha⟩ := (mem_pmTo p f L a n).1 ha
    have h1 := (pmOf_at ha).2
    have h2 := (pmOf_at hb).2
    have := getD_inj hL (show i < L.length by omega) (show n < L.length by omega) (by rw [← h1, ← h2, e])
    omega
theorem pseudo_nodup (p : List Int) (tn : Nat) (hF : Fair p tn) : ∀ n, n ≤ 64 → (pseudoTo p n).Nodup
  | 0, _ => by simp [pseudoTo]
  | n + 1, h => by
    have hp := hF.snd.pos
    rw [pseudoTo, List.nodup_append]
    refine ⟨pseudo_nodup p tn hF n (by omega), ?_, ?_⟩
    · unfold pseudoOf
      split
      · simp
      · rename_i hs
        rw [hF.snd.turn, pcAt_nat] at hs
        have hown : p.getD n 0 ≠ 0 ∧ sideOf (p.getD n 0) = (tn : Int) := ⟨fun e => hs (Or.inl e), Classical.byContradiction fun e => hs (Or.inr e)⟩
        have hx := (own_side p hp tn hF.snd.one n (by omega)).1 hown
        exact pmTo_nodup p _ _ (sqL_nodup p tn hF n (by omega) hx.1 hx.2) _ (Nat.le_refl _)
    · intro a ha b hb e
      obtain ⟨i, hi, ha⟩ := (mem_pseudo p a n).1 ha
      have hfr : ∀ (f : Int) (m : Mv), m ∈ pseudoOf p f → m.fr = f := by
        intro f m hm
        unfold pseudoOf at hm
        split at hm
        · cases hm
        · obtain ⟨j, hj, hm⟩ := (mem_pmTo p f _ m _).1 hm
          exact (pmOf_at hm).1
      have h1 := hfr _ _ ha
      have h2 := hfr _ _ hb
      rw [e, h2] at h1
      omega
/-- The engine's list and the legal moves but castling: the same in another order. -/
theorem lQ_perm (p : List Int) (tn : Nat) (hF : Fair p tn) : ((lQ p tn 12).map (·.1)).Perm ((pseudoTo p 64).filter (keepM p)) := by
  refine (List.perm_ext_iff_of_nodup (lQ_nodup p tn 12) ((pseudo_nodup p tn hF 64 (Nat.le_refl _)).sublist List.filter_sublist)).2 ?_
  intro m
  rw [← lQ_mem p tn hF m, List.mem_map]
theorem lQ_cap (p : List Int) (tn : Nat) (hF : Fair p tn) (h : (legalL p).length ≤ 218) : (lQ p tn 12).length ≤ 218 := by
  have h1 := (lQ_perm p tn hF).length_eq
  rw [List.length_map] at h1
  unfold legalL pseudoL at h
  rw [List.filter_append, List.length_append] at h
  omega
end Go.Proofs.YtnjdgooljnbebaaGreatDoor
