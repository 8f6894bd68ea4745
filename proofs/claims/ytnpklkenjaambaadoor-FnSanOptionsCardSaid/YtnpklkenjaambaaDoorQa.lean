/- The parts of a move's text: the plain law: a text has them in one way alone. -/
import Derived.Test.YtnpklkenjaambaaDoorTx
namespace Go.Proofs.YtnpklkenjaambaaDoor
open Go Go.RowKit
set_option maxHeartbeats 1000000
set_option linter.unusedSimpArgs false
set_option linter.unusedVariables false
set_option maxRecDepth 100000

def fileL : List UInt8 := [97, 98, 99, 100, 101, 102, 103, 104]
def digL : List UInt8 := [48, 49, 50, 51, 52, 53, 54, 55, 56, 57]
def pcsL : List UInt8 := [82, 78, 66, 81, 75, 80]
def proL : List UInt8 := [81, 82, 66, 78]
def sgnL : List UInt8 := [43, 35, 33, 63]
/-- At this place stands one of these. -/
def atB (L T : List UInt8) (i : Nat) : Bool := decide (i < T.length) && L.contains (T.getD i 0)
/-- Only signs, and the words of taking in passing. -/
def tailB : List UInt8 → Bool
  | [] => true
  | c :: r => if sgnL.contains c then tailB r else if c = 101 ∧ r.take 3 = [46, 112, 46] then tailB (r.drop 3) else false
termination_by l => l.length
theorem tailB_end (T : List UInt8) (i : Nat) (h : T.length ≤ i) : tailB (T.drop i) = true := by
  rw [List.drop_eq_nil_of_le h, tailB]
theorem tailB_at (T : List UInt8) (i : Nat) (h : i < T.length) :
    tailB (T.drop i) = if sgnL.contains (T.getD i 0) then tailB (T.drop (i + 1)) else if (T.drop i).take 4 = [101, 46, 112, 46] then tailB (T.drop (i + 4)) else false := by
  have e : T.drop i = T.getD i 0 :: T.drop (i + 1) := by rw [List.drop_eq_getElem_cons h]; simp [h]
  rw [e, tailB]
  split
  · rfl
  · have e2 : (T.drop (i + 1)).drop 3 = T.drop (i + 4) := by rw [List.drop_drop]
    rw [e2]
    simp
theorem ep_len (T : List UInt8) (i : Nat) (h : (T.drop i).take 4 = [101, 46, 112, 46]) : i + 4 ≤ T.length ∧ ∀ k, k < 4 → T.getD (i + k) 0 = [101, 46, 112, 46].getD k 0 := by
  have hl := congrArg List.length h
  simp at hl
  refine ⟨by omega, fun k hk => ?_⟩
  have := congrArg (fun l : List UInt8 => l.getD k 0) h
  rw [← this]
  simp [List.getElem?_take, hk, List.getElem?_drop]
theorem sgn_nodig (c : UInt8) (hs : sgnL.contains c = true) : ¬ (48 ≤ c.toNat ∧ c.toNat ≤ 57) := by
  simp [sgnL] at hs
  rcases hs with h | h | h | h <;> rw [h] <;> decide
theorem tail_nodig (T : List UInt8) : ∀ n e, T.length - e = n → tailB (T.drop e) = true → ∀ i, e ≤ i → i < T.length → ¬ (48 ≤ (T.getD i 0).toNat ∧ (T.getD i 0).toNat ≤ 57) := by
  intro n
  induction n using Nat.strongRecOn with
  | ind n ih =>
    intro e hn ht i hi hl
    rw [tailB_at T e (by omega)] at ht
    split at ht
    · rename_i hs
      by_cases h : i = e
      · subst h
        exact sgn_nodig _ hs
      · exact ih (T.length - (e + 1)) (by omega) (e + 1) rfl ht i (by omega) hl
    · split at ht
      · rename_i hp
        obtain ⟨h4, hk⟩ := ep_len T e hp
        by_cases h : i < e + 4
        · obtain ⟨k, rfl⟩ : ∃ k, i = e + k := ⟨i - e, by omega⟩
          rw [hk k (by omega)]
          rcases (show k = 0 ∨ k = 1 ∨ k = 2 ∨ k = 3 by omega) with rfl | rfl | rfl | rfl <;> decide
        · exact ih (T.length - (e + 4)) (by omega) (e + 4) rfl ht i (by omega) hl
      · cases ht
/-- The pieces ahead of the square are there as the numbers say (0 or 1), and the square is. -/
def okC (T : List UInt8) (a b c d : Nat) : Bool :=
  (b == 0 || atB fileL T a) && (c == 0 || atB digL T (a + b)) && (d == 0 || atB [120] T (a + b + c)) && atB fileL T (a + b + c + d) && atB digL T (a + b + c + d + 1)
/-- How long the promotion is. -/
def prL (T : List UInt8) (e : Nat) : Nat := if atB [61] T e && atB proL T (e + 1) then 2 else 0
def vN (T : List UInt8) (i : Nat) : Nat := (T.getD i 0).toNat
theorem at_file {T : List UInt8} {i : Nat} (h : atB fileL T i = true) : i < T.length ∧ 97 ≤ vN T i ∧ vN T i ≤ 104 := by
  simp [atB, fileL] at h
  refine ⟨h.1, ?_⟩
  unfold vN
  rw [List.getD_eq_getElem?_getD]
  rcases h.2 with h | h | h | h | h | h | h | h <;> rw [h] <;> decide
theorem at_dig {T : List UInt8} {i : Nat} (h : atB digL T i = true) : i < T.length ∧ 48 ≤ vN T i ∧ vN T i ≤ 57 := by
  simp [atB, digL] at h
  refine ⟨h.1, ?_⟩
  unfold vN
  rw [List.getD_eq_getElem?_getD]
  rcases h.2 with h | h | h | h | h | h | h | h | h | h <;> rw [h] <;> decide
theorem at_x {T : List UInt8} {i : Nat} (h : atB [120] T i = true) : i < T.length ∧ vN T i = 120 := by
  simp [atB] at h
  refine ⟨h.1, ?_⟩
  unfold vN
  rw [List.getD_eq_getElem?_getD, h.2]
  decide
theorem at_pr {T : List UInt8} {e : Nat} (h : prL T e = 2) : e + 1 < T.length ∧ vN T e = 61 ∧ 66 ≤ vN T (e + 1) ∧ vN T (e + 1) ≤ 82 := by
  unfold prL at h
  split at h
  · rename_i q
    simp [atB, proL] at q
    refine ⟨by omega, ?_, ?_⟩
    · unfold vN
      rw [List.getD_eq_getElem?_getD, q.1.2]
      decide
    · unfold vN
      rw [List.getD_eq_getElem?_getD]
      rcases q.2.2 with h | h | h | h <;> rw [h] <;> decide
  · omega
theorem prL_two (T : List UInt8) (e : Nat) : prL T e = 0 ∨ prL T e = 2 := by unfold prL; split <;> simp
theorem okC_says {T : List UInt8} {a b c d : Nat} (h : okC T a b c d = true) :
    (b = 0 ∨ a < T.length ∧ 97 ≤ vN T a ∧ vN T a ≤ 104) ∧ (c = 0 ∨ a + b < T.length ∧ 48 ≤ vN T (a + b) ∧ vN T (a + b) ≤ 57) ∧ (d = 0 ∨ a + b + c < T.length ∧ vN T (a + b + c) = 120) ∧
    (a + b + c + d < T.length ∧ 97 ≤ vN T (a + b + c + d) ∧ vN T (a + b + c + d) ≤ 104) ∧ (a + b + c + d + 1 < T.length ∧ 48 ≤ vN T (a + b + c + d + 1) ∧ vN T (a + b + c + d + 1) ≤ 57) := by
  simp only [okC, Bool.and_eq_true, Bool.or_eq_true, beq_iff_eq] at h
  obtain ⟨⟨⟨⟨h1, h2⟩, h3⟩, h4⟩, h5⟩ := h
  exact ⟨h1.imp id at_file, h2.imp id at_dig, h3.imp id at_x, at_file h4, at_dig h5⟩
theorem one_way {T : List UInt8} {a b c d b' c' d' p : Nat} (hb : b ≤ 1) (hc : c ≤ 1) (hd : d ≤ 1) (hb' : b' ≤ 1) (hc' : c' ≤ 1) (hd' : d' ≤ 1) (h : okC T a b c d = true) (h' : okC T a b' c' d' = true)
    (hp0 : prL T (a + b + c + d + 2) = 0) (ht : tailB (T.drop (a + b + c + d + 2)) = true) (hp : p = 0 ∨ p = prL T (a + b' + c' + d' + 2)) (ht' : tailB (T.drop (a + b' + c' + d' + 2 + p)) = true) : b' = b ∧ c' = c ∧ d' = d ∧ p = 0 := by
  have t1 := tail_nodig T _ _ rfl ht
  have t2 := tail_nodig T _ _ rfl ht'
  obtain ⟨f1, f2, f3, f4, f5⟩ := okC_says h
  obtain ⟨g1, g2, g3, g4, g5⟩ := okC_says h'
  have hat : a + b' + c' + d' = a + b + c + d := by
    apply Classical.byContradiction
    intro hne
    by_cases hlt : a + b + c + d < a + b' + c' + d'
    · exact t1 (a + b' + c' + d' + 1) (by omega) g5.1 g5.2
    · by_cases hp2 : p = 0
      · exact t2 (a + b + c + d + 1) (by omega) f5.1 f5.2
      · have hpp : prL T (a + b' + c' + d' + 2) = 2 := by have := prL_two T (a + b' + c' + d' + 2); omega
        have q := at_pr hpp
        by_cases e1 : a + b + c + d + 1 = a + b' + c' + d' + 2
        · rw [e1] at f5; omega
        · by_cases e2 : a + b + c + d + 1 = a + b' + c' + d' + 2 + 1
          · rw [e2] at f5; omega
          · exact t2 (a + b + c + d + 1) (by omega) f5.1 f5.2
  have hpz : p = 0 := by
    rcases hp with hp | hp
    · exact hp
    · rw [hp, hat]; exact hp0
  refine ⟨?_, ?_, ?_, hpz⟩ <;>
  (have hs : b' + c' + d' = b + c + d := by omega
   clear t1 t2 ht ht' hp hp0 h h' hat
   rcases (show b = 0 ∨ b = 1 by omega) with rfl | rfl <;> rcases (show c = 0 ∨ c = 1 by omega) with rfl | rfl <;> rcases (show d = 0 ∨ d = 1 by omega) with rfl | rfl <;>
     rcases (show b' = 0 ∨ b' = 1 by omega) with rfl | rfl <;> rcases (show c' = 0 ∨ c' = 1 by omega) with rfl | rfl <;> rcases (show d' = 0 ∨ d' = 1 by omega) with rfl | rfl <;>
     simp only [Nat.add_zero] at * <;> omega)
end Go.Proofs.YtnpklkenjaambaaDoor
