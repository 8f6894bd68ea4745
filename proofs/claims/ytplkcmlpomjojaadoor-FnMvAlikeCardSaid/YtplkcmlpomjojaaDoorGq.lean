/- The text of a board: how it is written square by square, and that it tells the board. The plain law: for every board of pieces from 0 to 12.
The engine's text of a board: NewSquare, getFENChar, String. For every board of pieces from 0 to 12.
The engine's samePosition: texts of the boards, turn, rights to castle, the square behind a pawn. (Printed by gen_sm.py.)
impl.SamePosition. For every two positions. (Printed by gen_sp.py.)
spec.Alike. For every two positions.
FnMvAlike: the law. For every two positions. -/
import Derived.Laws.IdiomStrings
import Derived.Test.YtplkcmlpomjojaaDoorGa
import Derived.Test.YtplkcmlpomjojaaDoorGe
import Derived.Test.YtplkcmlpomjojaaDoorGp
-- Ft
namespace Go.Proofs.YtplkcmlpomjojaaDoor
open Go Go.RowKit
set_option maxHeartbeats 1000000
set_option linter.unusedSimpArgs false
set_option linter.unusedVariables false
set_option maxRecDepth 100000

/-- The letter of a piece. -/
def chB (x : Int) : UInt8 :=
  match x.toNat with
  | 1 => 75 | 2 => 81 | 3 => 82 | 4 => 66 | 5 => 78 | 6 => 80 | 7 => 107 | 8 => 113 | 9 => 114 | 10 => 98 | 11 => 110 | 12 => 112 | _ => 0
def pcB (c : UInt8) : Int :=
  match c.toNat with
  | 75 => 1 | 81 => 2 | 82 => 3 | 66 => 4 | 78 => 5 | 80 => 6 | 107 => 7 | 113 => 8 | 114 => 9 | 98 => 10 | 110 => 11 | 112 => 12 | _ => 0
theorem pcB_chB : ∀ n < 13, 0 < n → pcB (chB ((n : Nat) : Int)) = (n : Int) ∧ chB ((n : Nat) : Int) ≠ 47 ∧ ¬ (49 ≤ (chB ((n : Nat) : Int)).toNat ∧ (chB ((n : Nat) : Int)).toNat ≤ 56) := by decide
/-- The digit of a number of squares. -/
def dgB (e : Nat) : UInt8 := UInt8.ofNat (48 + e)
theorem dgB_says : ∀ e < 9, 0 < e → (dgB e).toNat = 48 + e ∧ dgB e ≠ 47 := by decide
/-- What is written, and how many squares without a piece wait. -/
def putN (b : List UInt8) (e : Nat) : List UInt8 := if 0 < e then b ++ [dgB e] else b
def txStep (st : List UInt8 × Nat) (x : Int) : List UInt8 × Nat := if x = 0 then (st.1, st.2 + 1) else (putN st.1 st.2 ++ [chB x], 0)
/-- Behind n files of the rank r. -/
def txRow (p : List Int) (r : Nat) (st : List UInt8 × Nat) : Nat → List UInt8 × Nat
  | 0 => st
  | n + 1 => txStep (txRow p r st n) (p.getD (8 * r + n) 0)
/-- Behind k ranks, from the eighth one on. -/
def txHead (b : List UInt8) (k : Nat) : List UInt8 := if 0 < k then b ++ [47] else b
def txRank (p : List Int) : Nat → List UInt8
  | 0 => []
  | k + 1 => putN (txRow p (7 - k) (txHead (txRank p k) k, 0) 8).1 (txRow p (7 - k) (txHead (txRank p k) k, 0) 8).2
def txBoard (p : List Int) : List UInt8 := txRank p 8

theorem txRow_wait (p : List Int) (r : Nat) (b : List UInt8) : ∀ n, (txRow p r (b, 0) n).2 ≤ n
  | 0 => by simp [txRow]
  | n + 1 => by
    have := txRow_wait p r b n
    rw [txRow, txStep]
    split
    · simp; omega
    · simp
theorem putN_size (b : List UInt8) (e : Nat) : (putN b e).length ≤ b.length + 1 := by unfold putN; split <;> simp
theorem txRow_size (p : List Int) (r : Nat) (b : List UInt8) : ∀ n, (txRow p r (b, 0) n).1.length + (if 0 < (txRow p r (b, 0) n).2 then 1 else 0) ≤ b.length + n
  | 0 => by simp [txRow]
  | n + 1 => by
    have ih := txRow_size p r b n
    rw [txRow, txStep]
    by_cases h : p.getD (8 * r + n) 0 = 0
    · rw [if_pos h]
      simp only
      split <;> split at ih <;> omega
    · rw [if_neg h]
      simp only [List.length_append, List.length_singleton]
      unfold putN
      split
      · rename_i q; rw [if_pos q] at ih; simp; omega
      · rename_i q; rw [if_neg q] at ih; simp; omega
theorem txRank_size (p : List Int) : ∀ k, (txRank p k).length ≤ 9 * k
  | 0 => by simp [txRank]
  | k + 1 => by
    have ih := txRank_size p k
    have h := txRow_size p (7 - k) (txHead (txRank p k) k) 8
    have h2 : (txHead (txRank p k) k).length ≤ (txRank p k).length + 1 := by unfold txHead; split <;> simp
    rw [txRank, putN]
    split
    · rename_i q; rw [if_pos q] at h; simp; omega
    · rename_i q; rw [if_neg q] at h; omega
/-- The text read back: the squares from a8 on. -/
def txBack : List UInt8 → List Int
  | [] => []
  | c :: l => if c = 47 then txBack l else if 49 ≤ c.toNat ∧ c.toNat ≤ 56 then List.replicate (c.toNat - 48) 0 ++ txBack l else pcB c :: txBack l
theorem txBack_append : ∀ a b, txBack (a ++ b) = txBack a ++ txBack b
  | [], b => by simp [txBack]
  | c :: l, b => by
    have ih := txBack_append l b
    simp only [List.cons_append, txBack, ih]
    split
    · rfl
    · split <;> simp
theorem txBack_put (b : List UInt8) (e : Nat) (h : e ≤ 8) : txBack (putN b e) = txBack b ++ List.replicate e 0 := by
  unfold putN
  by_cases h0 : 0 < e
  · obtain ⟨h1, h2⟩ := dgB_says e (by omega) h0
    rw [if_pos h0, txBack_append]
    congr 1
    rw [txBack, if_neg h2, if_pos (by omega), h1, show 48 + e - 48 = e by omega]
    simp [txBack]
  · have : e = 0 := by omega
    subst this
    simp
theorem txBack_one (x : Int) (h0 : 0 < x) (h1 : x ≤ 12) : txBack [chB x] = [x] := by
  obtain ⟨n, rfl⟩ := Int.eq_ofNat_of_zero_le (Int.le_of_lt h0)
  obtain ⟨a, b, c⟩ := pcB_chB n (by omega) (by omega)
  rw [txBack, if_neg b, if_neg c, a]
  simp [txBack]
def rowL (p : List Int) (r n : Nat) : List Int := (List.range n).map fun i => p.getD (8 * r + i) 0
theorem rowL_succ (p : List Int) (r n : Nat) : rowL p r (n + 1) = rowL p r n ++ [p.getD (8 * r + n) 0] := by simp [rowL, List.range_succ]
theorem txBack_row (p : List Int) (r : Nat) (b : List UInt8) (hp : ∀ i, i < 64 → 0 ≤ p.getD i 0 ∧ p.getD i 0 ≤ 12) (hr : r < 8) : ∀ n, n ≤ 8 → txBack (txRow p r (b, 0) n).1 ++ List.replicate (txRow p r (b, 0) n).2 0 = txBack b ++ rowL p r n
  | 0, _ => by simp [txRow, rowL]
  | n + 1, h => by
    have ih := txBack_row p r b hp hr n (by omega)
    have hw := txRow_wait p r b n
    have hx := hp (8 * r + n) (by omega)
    rw [rowL_succ, ← List.append_assoc, ← ih, txRow, txStep]
    by_cases h0 : p.getD (8 * r + n) 0 = 0
    · rw [if_pos h0, h0]
      simp [List.replicate_succ']
    · rw [if_neg h0]
      simp only [txBack_append, List.replicate_zero, List.append_nil]
      rw [txBack_put _ _ (by omega), txBack_one _ (by omega) hx.2]
def ranksL (p : List Int) : Nat → List Int
  | 0 => []
  | k + 1 => ranksL p k ++ rowL p (7 - k) 8
theorem txBack_head (b : List UInt8) (k : Nat) : txBack (txHead b k) = txBack b := by
  unfold txHead
  split
  · rw [txBack_append]; simp [txBack]
  · rfl
theorem txBack_rank (p : List Int) (hp : ∀ i, i < 64 → 0 ≤ p.getD i 0 ∧ p.getD i 0 ≤ 12) : ∀ k, k ≤ 8 → txBack (txRank p k) = ranksL p k
  | 0, _ => by simp [txRank, txBack, ranksL]
  | k + 1, h => by
    have ih := txBack_rank p hp k (by omega)
    have hw := txRow_wait p (7 - k) (txHead (txRank p k) k) 8
    rw [txRank, txBack_put _ _ hw, txBack_row p (7 - k) _ hp (by omega) 8 (by omega), txBack_head, ih, ranksL]
theorem rowL_len (p : List Int) (r n : Nat) : (rowL p r n).length = n := by simp [rowL]
theorem ranksL_inj (p q : List Int) : ∀ k, ranksL p k = ranksL q k → ∀ j, j < k → rowL p (7 - j) 8 = rowL q (7 - j) 8
  | 0, _, j, hj => by omega
  | k + 1, h, j, hj => by
    rw [ranksL, ranksL] at h
    have h2 := List.append_inj' h (by rw [rowL_len, rowL_len])
    by_cases e : j = k
    · subst e; exact h2.2
    · exact ranksL_inj p q k h2.1 j (by omega)
theorem txBoard_inj (p q : List Int) (hp : ∀ i, i < 64 → 0 ≤ p.getD i 0 ∧ p.getD i 0 ≤ 12) (hq : ∀ i, i < 64 → 0 ≤ q.getD i 0 ∧ q.getD i 0 ≤ 12) (h : txBoard p = txBoard q) : ∀ i, i < 64 → p.getD i 0 = q.getD i 0 := by
  intro i hi
  have e : ranksL p 8 = ranksL q 8 := by rw [← txBack_rank p hp 8 (by omega), ← txBack_rank q hq 8 (by omega)]; exact congrArg txBack h
  have hr := ranksL_inj p q 8 e (7 - i / 8) (by omega)
  rw [show 7 - (7 - i / 8) = i / 8 by omega] at hr
  have := congrArg (fun l => l.getD (i % 8) 0) hr
  simpa [rowL, List.getD, show i % 8 < 8 by omega, show 8 * (i / 8) + i % 8 = i by omega] using this
theorem txRow_congr (p q : List Int) (r : Nat) (hr : r < 8) (st : List UInt8 × Nat) (h : ∀ i, i < 64 → p.getD i 0 = q.getD i 0) : ∀ n, n ≤ 8 → txRow p r st n = txRow q r st n
  | 0, _ => rfl
  | n + 1, hn => by rw [txRow, txRow, txRow_congr p q r hr st h n (by omega), h _ (by omega)]
theorem txRank_congr (p q : List Int) (h : ∀ i, i < 64 → p.getD i 0 = q.getD i 0) : ∀ k, k ≤ 8 → txRank p k = txRank q k
  | 0, _ => rfl
  | k + 1, hk => by rw [txRank, txRank, txRank_congr p q h k (by omega), txRow_congr p q (7 - k) (by omega) _ h 8 (by omega)]
end Go.Proofs.YtplkcmlpomjojaaDoor
-- Fs
namespace Go.Proofs.YtplkcmlpomjojaaDoor
open Go Go.RowKit
set_option maxHeartbeats 8000000
set_option linter.unusedSimpArgs false
set_option linter.unusedVariables false
set_option maxRecDepth 100000

def wPieceL : List Int := [0, 75, 81, 82, 66, 78, 80]
def bPieceL : List Int := [0, 107, 113, 114, 98, 110, 112]
theorem wrap_i8b (n : Int) (h0 : -128 ≤ n) (h1 : n ≤ 127) : IntKind.i8.wrap n = n := by
  unfold IntKind.wrap
  simp only [show IntKind.i8.bits = 8 from rfl, show IntKind.i8.signed = true from rfl, Bool.true_and]
  split <;> rename_i h <;> simp at h <;> omega
theorem fs_square (f r : Nat) (hf : f < 8) (hr : r < 8) (w : World) :
    Calls Tryd.prog 69 #[.int .i8 (f : Int), .int .i8 (r : Int)] w fun e w' => e = .returned (.int .i8 ((8 * r + f : Nat) : Int)) ∧ w = w' := by
  have e : ((8 * r + f : Nat) : Int) = (r : Int) * 8 + f := by omega
  rw [e]
  go_enter Tryd.func69, Tryd.ntmps69
  go_wp2
  go_ret
  exact ⟨rfl, rfl⟩
theorem fs_char (k : Nat) (h : k < 12) (w : World) (hw : IntTab w 7 .u8 wPieceL) (hb : IntTab w 8 .u8 bPieceL) :
    Calls Tryd.prog 71 #[.int .i8 ((k : Int) + 1)] w fun e w' => e = .returned (.int .u8 ((chB ((k : Int) + 1)).toNat : Int)) ∧ w = w' := by
  have c0 := hw.cell (k % 6 + 1) (by simp [wPieceL]; omega)
  have c1 := hb.cell (k % 6 + 1) (by simp [bPieceL]; omega)
  clear hw hb
  unfold wPieceL at c0
  unfold bPieceL at c1
  have ht := lay (da_type k h w)
  have hc := lay (da_color k h w)
  rcases twelve h with rfl | rfl | rfl | rfl | rfl | rfl | rfl | rfl | rfl | rfl | rfl | rfl
  all_goals (
    simp at c0 c1
    go_enter Tryd.func71, Tryd.ntmps71
    go_wp2_with (first
      | (go_at_call 66; refine ht.out.mono ?_; rintro e1 w1 ⟨rfl, rfl⟩)
      | (go_at_call 65; refine hc.out.mono ?_; rintro e1 w1 ⟨rfl, rfl⟩))
    go_ret
    exact ⟨rfl, rfl⟩)
def u8V (l : List UInt8) : List Value := l.map fun c => .int .u8 (c.toNat : Int)
theorem u8V_put (b : List UInt8) (c : UInt8) : u8V (b ++ [c]) = u8V b ++ [.int .u8 (c.toNat : Int)] := by simp [u8V]
abbrev ownU8 (w : World) (base : Nat) (v : Value) (l : List UInt8) : Prop := w.ownsRow base 5 1 v l.length (u8V l)
theorem ownU8.next {w : World} {base : Nat} {v : Value} {l : List UInt8} {c : UInt8} (h : w.ownsRow base 5 1 v (l.length + 1) (u8V l ++ [.int .u8 (c.toNat : Int)])) : ownU8 w base v (l ++ [c]) := by
  unfold ownU8
  rw [List.length_append, u8V_put]
  exact h
theorem dg_int (e : Nat) (h0 : 0 < e) (h8 : e ≤ 8) : ((dgB e).toNat : Int) = 48 + (e : Int) ∧ IntKind.u8.wrap (48 + (e : Int)) = 48 + (e : Int) := by
  have := (dgB_says e (by omega) h0).1
  rw [this]
  refine ⟨by omega, ?_⟩
  rw [IntKind.wrap_u8]; omega
theorem fs_string (p : List Int) (hp : ∀ i, i < 64 → 0 ≤ p.getD i 0 ∧ p.getD i 0 ≤ 12) (g : Nat) (w : World) (hg : w.heap[g]? = some (.cells (brd p) 75 (0, 0))) (hA : IntSl w 6 .i8 allL)
    (hw : IntTab w 7 .u8 wPieceL) (hb : IntTab w 8 .u8 bPieceL) :
    Calls Tryd.prog 57 #[.pointer (some ⟨g, 0, none⟩)] w fun e w' => e = .returned (.string ⟨(txBoard p).toArray⟩) ∧ Below w.heap.size w w' := by
  obtain ⟨i0, hi, hz0, hz1, hz2⟩ := info_parts (show (Tryd.prog.info? 5).map (fun i => (i.zero, i.size, i.bytes)) = some (some (.int .u8 0), 1, 1) by kernel_rfl)
  have hpc := lay (fun (V : World) (hV : Below w.heap.size w V) (s : Int) h0 h1 hp0 hp1 => bo_piece p (bbv (whiteB p)) (bbv (blackB p)) (bbv (~~~(whiteB p ||| blackB p))) (.int .i8 (lastK p 1 64)) (.int .i8 (lastK p 7 64)) g s V (hA.below hV) ((hV.block g (Array.getElem?_eq_some_iff.1 hg).1).trans hg) h0 h1 hp0 hp1)
  have hch := lay (fun (V : World) (hV : Below w.heap.size w V) (k : Nat) hk => fs_char k hk V (hw.below hV) (hb.below hV))
  have hps := lay hp
  clear hg hA hw hb hp
  obtain ⟨w0, hmk0, hown0, hgr0⟩ := run_make_own (P := Tryd.prog) w w.heap.size 25 5 i0 (.int .u8 0) 1 Tryd.underlying25 hi hz0 hz1 .i64 .i64 71 (by rw [hz2]; decide) (by decide) (Nat.le_refl _)
  have hmk : (Instr.makeSlice 25 (.int .i64 0) (.int .i64 71)).run Tryd.prog w = .ok (.slice (some ⟨w.heap.size, 0, none⟩) 0 71) w0 := hmk0
  have hb0 : Below w.heap.size w w0 := (Below.refl _ _).grown hgr0 (Nat.le_refl _) (fun k h => by cases h)
  have hE : Shut (∀ (k : Nat), k < 8 → ∀ n : Nat, n < 8 → ∀ V : World, Calls Tryd.prog 69 #[.int .i8 (n : Int), .int .i8 (7 - (k : Int))] V fun e w' => e = .returned (.int .i8 ((8 * (7 - k) + n : Nat) : Int)) ∧ V = w') := by
    intro k hk n hn V
    have := fs_square n (7 - k) hn (by omega) V
    rw [show ((7 - k : Nat) : Int) = 7 - (k : Int) by omega] at this
    exact this
  clear hmk0 hgr0
  have hown0s := lay hown0
  have hb0s := lay hb0
  clear hown0 hb0
  go_enter Tryd.func57, Tryd.ntmps57
  go_wp2_with fail
  clear hmk
  go_loopw [3, 4, 5] (fun b e r wr => ∃ k : Nat, k ≤ 8 ∧ r = .int .i64 (7 - (k : Int)) ∧ e = .int .i64 0 ∧ ownU8 wr w.heap.size b (txRank p k) ∧ Below w.heap.size w wr) (fun _ _ r _ => (intOf r + 1).toNat)
  case atStart => exact ⟨0, by omega, rfl, rfl, hown0s.out, hb0s.out⟩
  case round =>
    obtain ⟨k, hk, rfl, rfl, hown, hbr⟩ := hrel
    by_cases hlt : k < 8
    · have hw8 : IntKind.i8.wrap (7 - (k : Int)) = 7 - (k : Int) := wrap_i8b _ (by omega) (by omega)
      have hr0 : decide (7 - (k : Int) ≥ 0) = true := decide_eq_true (by omega)
      have hsz := txRank_size p k
      have hEk := lay (hE.out k hlt)
      have hRk := lay (show txRank p (k + 1) = putN (txRow p (7 - k) (txHead (txRank p k) k, 0) 8).1 (txRow p (7 - k) (txHead (txRank p k) k, 0) 8).2 from rfl)
      have hH : Shut (txHead (txRank p k) k = if 0 < k then txRank p k ++ [47] else txRank p k) := by rfl
      generalize hLg : txRank p k = L at *
      have hbs := lay hbr
      have hbz := hbr.size
      clear hbr hLg
      by_cases hk0 : k = 0
      · have hk7 : decide ((k : Int) ≤ 7) = true := decide_eq_true (by omega)
        have hd : decide (7 - (k : Int) < 7) = false := decide_eq_false (by omega)
        rw [if_neg (by omega)] at hH
        rw [← hH.out] at hown
        have hHL : Shut ((txHead L k).length ≤ 100) := by show _ ≤ _; rw [hH.out]; omega
        generalize txHead L k = HD at *
        have hownH := lay hown
        have hbH := hbs
        have hHL2 := hHL.out
        clear hown hH hk0 hsz
        go_wp2_with fail
        go_loopw [3, 4, 19] (fun b e i wx => ∃ n : Nat, n ≤ 8 ∧ i = .int .i64 (n : Int) ∧ ownU8 wx w.heap.size b (txRow p (7 - k) (HD, 0) n).1 ∧ e = .int .i64 (((txRow p (7 - k) (HD, 0) n).2 : Nat) : Int) ∧ Below w.heap.size w wx) (fun _ _ i _ => (8 - (intOf i).toNat))
        case atStart => exact ⟨0, by omega, rfl, hownH.out, rfl, hbH.out⟩
        case round =>
          obtain ⟨n, hn, rfl, hown2, rfl, hb2⟩ := hrel
          have hwt := txRow_wait p (7 - k) HD n
          have hsz2 := txRow_size p (7 - k) HD n
          have hb2s := lay hb2
          have hbz2 := hb2.size
          clear hb2
          by_cases hlt2 : n < 8
          · have hstep := lay (show txRow p (7 - k) (HD, 0) (n + 1) = txStep (txRow p (7 - k) (HD, 0) n) (p.getD (8 * (7 - k) + n) 0) from rfl)
            obtain ⟨x0, x1⟩ := hps.out (8 * (7 - k) + n) (by omega)
            have hP : Shut (Calls Tryd.prog 70 #[.pointer (some ⟨g, 0, none⟩), .int .i8 ((8 * (7 - k) + n : Nat) : Int)] wr fun e' w' => e' = .returned (.int .i8 (p.getD (8 * (7 - k) + n) 0)) ∧ wr = w') := hpc.out wr hb2s.out ((8 * (7 - k) + n : Nat) : Int) (by omega) (by omega) x0 x1
            have hEn := lay (hEk.out n hlt2)
            have hwn : IntKind.i8.wrap (n : Int) = n := wrap_i8b _ (by omega) (by omega)
            generalize p.getD (8 * (7 - k) + n) 0 = x at *
            generalize txRow p (7 - k) (HD, 0) n = st at *
            obtain ⟨bl, ec⟩ := st
            simp only at hown2 hwt hsz2 hstep
            by_cases hx : x = 0
            · have hx0 : (x == 0) = true := by rw [hx]; rfl
              have hstep2 : Shut (txRow p (7 - k) (HD, 0) (n + 1) = (bl, ec + 1)) := by rw [hstep.out, txStep, if_pos hx]; rfl
              have hown2s := lay hown2
              clear hown2 hx hstep
              go_wp2_with (first
                    | (go_at_call 69; refine (hEn.out _).mono ?_; rintro e1 w1 ⟨rfl, rfl⟩)
                    | (go_at_call 70; refine hP.out.mono ?_; rintro e1 w1 ⟨rfl, rfl⟩))
              go_roundw
              case rel =>
                have R : ∃ n' : Nat, n' ≤ 8 ∧ Value.int .i64 ((n : Int) + 1) = .int .i64 (n' : Int) ∧ ownU8 wr w.heap.size u3 (txRow p (7 - k) (HD, 0) n').1 ∧ Value.int .i64 ((ec : Int) + 1) = .int .i64 (((txRow p (7 - k) (HD, 0) n').2 : Nat) : Int) ∧ Below w.heap.size w wr := ⟨n + 1, by omega, by go_num, by rw [hstep2.out]; exact hown2s.out, by rw [hstep2.out]; rfl, hb2s.out⟩
                first | exact R | ((repeat apply Exists.intro); exact ⟨R, rfl⟩)
              case measure => simp [intOf]; omega
            · obtain ⟨q, hq, rfl⟩ : ∃ q : Nat, q < 12 ∧ x = (q : Int) + 1 := ⟨(x - 1).toNat, by omega, by omega⟩
              have hx0 : ((q : Int) + 1 == 0) = false := by simp; omega
              have hstep2 : Shut (txRow p (7 - k) (HD, 0) (n + 1) = (putN bl ec ++ [chB ((q : Int) + 1)], 0)) := by rw [hstep.out, txStep, if_neg (by omega)]; rfl
              clear hx hstep
              have hchq := lay (fun (V : World) hV => hch.out V hV q hq)
              generalize chB ((q : Int) + 1) = cq at *
              by_cases he : ec = 0
              · subst he
                have hput : Shut (putN bl 0 = bl) := by rfl
                have hlen : bl.length ≤ 900 := by simp at hsz2; omega
                go_wp2_with (first
                    | (go_at_call 69; refine (hEn.out _).mono ?_; rintro e1 w1 ⟨rfl, rfl⟩)
                    | (go_at_call 70; refine hP.out.mono ?_; rintro e1 w1 ⟨rfl, rfl⟩)
                    | (go_at_call 71; refine (hchq.out _ hb2s.out).mono ?_; rintro e1 w1 ⟨rfl, rfl⟩)
                    | (with_reducible refine at_append1 Tryd.underlying25 hi hz0 hz1 hz2 rfl (by decide) rfl w.heap.size _ _ _ hown2 (by omega) hbz2 ?_ ?_ ?_))
                · rfl
                · rfl
                intro b3 w3 hown3 hb3
                have hown3s := lay (ownU8.next hown3)
                have hb3s := lay (hb2s.out.trans hb3)
                clear hown2 hown3 hb3
                go_wp2_with fail
                go_roundw
                case rel =>
                  have R : ∃ n' : Nat, n' ≤ 8 ∧ Value.int .i64 ((n : Int) + 1) = .int .i64 (n' : Int) ∧ ownU8 w3 w.heap.size b3 (txRow p (7 - k) (HD, 0) n').1 ∧ Value.int .i64 0 = .int .i64 (((txRow p (7 - k) (HD, 0) n').2 : Nat) : Int) ∧ Below w.heap.size w w3 := ⟨n + 1, by omega, by go_num, by rw [hstep2.out, hput.out]; exact hown3s.out, by rw [hstep2.out]; rfl, hb3s.out⟩
                  first | exact R | ((repeat apply Exists.intro); exact ⟨R, rfl⟩)
                case measure => simp [intOf]; omega
              · have hput : Shut (putN bl ec = bl ++ [dgB ec]) := by unfold putN; rw [if_pos (by omega)]; rfl
                obtain ⟨dg1, dg2⟩ := dg_int ec (by omega) (by omega)
                have hpos : decide ((ec : Int) > 0) = true := decide_eq_true (by omega)
                have hlen : bl.length ≤ 900 := by split at hsz2 <;> omega
                have dg1s := lay dg1
                clear dg1
                go_wp2_with (first
                    | (go_at_call 69; refine (hEn.out _).mono ?_; rintro e1 w1 ⟨rfl, rfl⟩)
                    | (go_at_call 70; refine hP.out.mono ?_; rintro e1 w1 ⟨rfl, rfl⟩)
                    | (with_reducible refine at_append1 Tryd.underlying25 hi hz0 hz1 hz2 rfl (by decide) rfl w.heap.size _ _ _ hown2 (by omega) hbz2 ?_ ?_ ?_))
                · rfl
                · rfl
                intro b3 w3 hown3 hb3
                rw [← dg1s.out] at hown3
                have hown3' := ownU8.next hown3
                have hb3s := lay (hb2s.out.trans hb3)
                have hbz3 := hb3s.out.size
                have hlen3 : (bl ++ [dgB ec]).length ≤ 1000 := by simp; omega
                clear hown2 hown3 hb3
                generalize bl ++ [dgB ec] = bl2 at *
                go_wp2_with (first
                    | (go_at_call 71; refine (hchq.out _ hb3s.out).mono ?_; rintro e1 w1 ⟨rfl, rfl⟩)
                    | (with_reducible refine at_append1 Tryd.underlying25 hi hz0 hz1 hz2 rfl (by decide) rfl w.heap.size _ _ _ hown3' (by omega) hbz3 ?_ ?_ ?_))
                · rfl
                · rfl
                intro b4 w4 hown4 hb4
                have hown4s := lay (ownU8.next hown4)
                have hb4s := lay (hb3s.out.trans hb4)
                clear hown3' hown4 hb4
                go_wp2_with fail
                go_roundw
                case rel =>
                  have R : ∃ n' : Nat, n' ≤ 8 ∧ Value.int .i64 ((n : Int) + 1) = .int .i64 (n' : Int) ∧ ownU8 w4 w.heap.size b4 (txRow p (7 - k) (HD, 0) n').1 ∧ Value.int .i64 0 = .int .i64 (((txRow p (7 - k) (HD, 0) n').2 : Nat) : Int) ∧ Below w.heap.size w w4 := ⟨n + 1, by omega, by go_num, by rw [hstep2.out, hput.out]; exact hown4s.out, by rw [hstep2.out]; rfl, hb4s.out⟩
                  first | exact R | ((repeat apply Exists.intro); exact ⟨R, rfl⟩)
                case measure => simp [intOf]; omega
          · obtain rfl : n = 8 := by omega
            generalize txRow p (7 - k) (HD, 0) 8 = st at *
            obtain ⟨bl, ec⟩ := st
            simp only at hown2 hwt hsz2 hRk
            have hrm : Value.int .i64 (7 - (k : Int) - 1) = .int .i64 (7 - ((k + 1 : Nat) : Int)) := by congr 1; omega
            have hrms := lay hrm
            clear hrm
            by_cases he : ec = 0
            · subst he
              have hput : Shut (txRank p (k + 1) = bl) := by rw [hRk.out]; rfl
              have hown2s := lay hown2
              clear hown2
              go_wp2_with fail
              go_roundw
              case rel =>
                have R : ∃ k' : Nat, k' ≤ 8 ∧ Value.int .i64 (7 - (k : Int) - 1) = .int .i64 (7 - (k' : Int)) ∧ Value.int .i64 0 = .int .i64 0 ∧ ownU8 wr w.heap.size u3 (txRank p k') ∧ Below w.heap.size w wr := ⟨k + 1, by omega, hrms.out, rfl, by rw [hput.out]; exact hown2s.out, hb2s.out⟩
                first | exact R | ((repeat apply Exists.intro); exact ⟨R, rfl⟩)
              case measure => simp [intOf]; omega
            · have hput : Shut (txRank p (k + 1) = bl ++ [dgB ec]) := by rw [hRk.out]; unfold putN; rw [if_pos (by omega)]; rfl
              obtain ⟨dg1, dg2⟩ := dg_int ec (by omega) (by omega)
              have hpos : decide ((ec : Int) > 0) = true := decide_eq_true (by omega)
              have hlen : bl.length ≤ 900 := by split at hsz2 <;> omega
              have dg1s := lay dg1
              clear dg1
              go_wp2_with (with_reducible refine at_append1 Tryd.underlying25 hi hz0 hz1 hz2 rfl (by decide) rfl w.heap.size _ _ _ hown2 (by omega) hbz2 ?_ ?_ ?_)
              · rfl
              · rfl
              intro b3 w3 hown3 hb3
              rw [← dg1s.out] at hown3
              have hown3s := lay (ownU8.next hown3)
              have hb3s := lay (hb2s.out.trans hb3)
              clear hown2 hown3 hb3
              go_wp2_with fail
              go_roundw
              case rel =>
                have R : ∃ k' : Nat, k' ≤ 8 ∧ Value.int .i64 (7 - (k : Int) - 1) = .int .i64 (7 - (k' : Int)) ∧ Value.int .i64 0 = .int .i64 0 ∧ ownU8 w3 w.heap.size b3 (txRank p k') ∧ Below w.heap.size w w3 := ⟨k + 1, by omega, hrms.out, rfl, by rw [hput.out]; exact hown3s.out, hb3s.out⟩
                first | exact R | ((repeat apply Exists.intro); exact ⟨R, rfl⟩)
              case measure => simp [intOf]; omega
      · have hd : decide (7 - (k : Int) < 7) = true := decide_eq_true (by omega)
        rw [if_pos (by omega)] at hH
        go_wp2_with (with_reducible refine at_append1 Tryd.underlying25 hi hz0 hz1 hz2 rfl (by decide) rfl w.heap.size _ _ _ hown (by omega) hbz ?_ ?_ ?_)
        · rfl
        · rfl
        intro b1 w1 hown1 hb1
        have hown1' : ownU8 w1 w.heap.size b1 (txHead L k) := by rw [hH.out]; exact ownU8.next (c := 47) hown1
        have hbH := lay (hbs.out.trans hb1)
        have hHL : Shut ((txHead L k).length ≤ 100) := by show _ ≤ _; rw [hH.out]; simp; omega
        generalize txHead L k = HD at *
        have hownH := lay hown1'
        have hHL2 := hHL.out
        clear hown hown1 hown1' hb1 hH hk0 hsz
        go_wp2_with fail
        go_loopw [3, 4, 19] (fun b e i wx => ∃ n : Nat, n ≤ 8 ∧ i = .int .i64 (n : Int) ∧ ownU8 wx w.heap.size b (txRow p (7 - k) (HD, 0) n).1 ∧ e = .int .i64 (((txRow p (7 - k) (HD, 0) n).2 : Nat) : Int) ∧ Below w.heap.size w wx) (fun _ _ i _ => (8 - (intOf i).toNat))
        case atStart => exact ⟨0, by omega, rfl, hownH.out, rfl, hbH.out⟩
        case round =>
          obtain ⟨n, hn, rfl, hown2, rfl, hb2⟩ := hrel
          have hwt := txRow_wait p (7 - k) HD n
          have hsz2 := txRow_size p (7 - k) HD n
          have hb2s := lay hb2
          have hbz2 := hb2.size
          clear hb2
          by_cases hlt2 : n < 8
          · have hstep := lay (show txRow p (7 - k) (HD, 0) (n + 1) = txStep (txRow p (7 - k) (HD, 0) n) (p.getD (8 * (7 - k) + n) 0) from rfl)
            obtain ⟨x0, x1⟩ := hps.out (8 * (7 - k) + n) (by omega)
            have hP : Shut (Calls Tryd.prog 70 #[.pointer (some ⟨g, 0, none⟩), .int .i8 ((8 * (7 - k) + n : Nat) : Int)] wr fun e' w' => e' = .returned (.int .i8 (p.getD (8 * (7 - k) + n) 0)) ∧ wr = w') := hpc.out wr hb2s.out ((8 * (7 - k) + n : Nat) : Int) (by omega) (by omega) x0 x1
            have hEn := lay (hEk.out n hlt2)
            have hwn : IntKind.i8.wrap (n : Int) = n := wrap_i8b _ (by omega) (by omega)
            generalize p.getD (8 * (7 - k) + n) 0 = x at *
            generalize txRow p (7 - k) (HD, 0) n = st at *
            obtain ⟨bl, ec⟩ := st
            simp only at hown2 hwt hsz2 hstep
            by_cases hx : x = 0
            · have hx0 : (x == 0) = true := by rw [hx]; rfl
              have hstep2 : Shut (txRow p (7 - k) (HD, 0) (n + 1) = (bl, ec + 1)) := by rw [hstep.out, txStep, if_pos hx]; rfl
              have hown2s := lay hown2
              clear hown2 hx hstep
              go_wp2_with (first
                    | (go_at_call 69; refine (hEn.out _).mono ?_; rintro e1 w1 ⟨rfl, rfl⟩)
                    | (go_at_call 70; refine hP.out.mono ?_; rintro e1 w1 ⟨rfl, rfl⟩))
              go_roundw
              case rel =>
                have R : ∃ n' : Nat, n' ≤ 8 ∧ Value.int .i64 ((n : Int) + 1) = .int .i64 (n' : Int) ∧ ownU8 wr w.heap.size u3 (txRow p (7 - k) (HD, 0) n').1 ∧ Value.int .i64 ((ec : Int) + 1) = .int .i64 (((txRow p (7 - k) (HD, 0) n').2 : Nat) : Int) ∧ Below w.heap.size w wr := ⟨n + 1, by omega, by go_num, by rw [hstep2.out]; exact hown2s.out, by rw [hstep2.out]; rfl, hb2s.out⟩
                first | exact R | ((repeat apply Exists.intro); exact ⟨R, rfl⟩)
              case measure => simp [intOf]; omega
            · obtain ⟨q, hq, rfl⟩ : ∃ q : Nat, q < 12 ∧ x = (q : Int) + 1 := ⟨(x - 1).toNat, by omega, by omega⟩
              have hx0 : ((q : Int) + 1 == 0) = false := by simp; omega
              have hstep2 : Shut (txRow p (7 - k) (HD, 0) (n + 1) = (putN bl ec ++ [chB ((q : Int) + 1)], 0)) := by rw [hstep.out, txStep, if_neg (by omega)]; rfl
              clear hx hstep
              have hchq := lay (fun (V : World) hV => hch.out V hV q hq)
              generalize chB ((q : Int) + 1) = cq at *
              by_cases he : ec = 0
              · subst he
                have hput : Shut (putN bl 0 = bl) := by rfl
                have hlen : bl.length ≤ 900 := by simp at hsz2; omega
                go_wp2_with (first
                    | (go_at_call 69; refine (hEn.out _).mono ?_; rintro e1 w1 ⟨rfl, rfl⟩)
                    | (go_at_call 70; refine hP.out.mono ?_; rintro e1 w1 ⟨rfl, rfl⟩)
                    | (go_at_call 71; refine (hchq.out _ hb2s.out).mono ?_; rintro e1 w1 ⟨rfl, rfl⟩)
                    | (with_reducible refine at_append1 Tryd.underlying25 hi hz0 hz1 hz2 rfl (by decide) rfl w.heap.size _ _ _ hown2 (by omega) hbz2 ?_ ?_ ?_))
                · rfl
                · rfl
                intro b3 w3 hown3 hb3
                have hown3s := lay (ownU8.next hown3)
                have hb3s := lay (hb2s.out.trans hb3)
                clear hown2 hown3 hb3
                go_wp2_with fail
                go_roundw
                case rel =>
                  have R : ∃ n' : Nat, n' ≤ 8 ∧ Value.int .i64 ((n : Int) + 1) = .int .i64 (n' : Int) ∧ ownU8 w3 w.heap.size b3 (txRow p (7 - k) (HD, 0) n').1 ∧ Value.int .i64 0 = .int .i64 (((txRow p (7 - k) (HD, 0) n').2 : Nat) : Int) ∧ Below w.heap.size w w3 := ⟨n + 1, by omega, by go_num, by rw [hstep2.out, hput.out]; exact hown3s.out, by rw [hstep2.out]; rfl, hb3s.out⟩
                  first | exact R | ((repeat apply Exists.intro); exact ⟨R, rfl⟩)
                case measure => simp [intOf]; omega
              · have hput : Shut (putN bl ec = bl ++ [dgB ec]) := by unfold putN; rw [if_pos (by omega)]; rfl
                obtain ⟨dg1, dg2⟩ := dg_int ec (by omega) (by omega)
                have hpos : decide ((ec : Int) > 0) = true := decide_eq_true (by omega)
                have hlen : bl.length ≤ 900 := by split at hsz2 <;> omega
                have dg1s := lay dg1
                clear dg1
                go_wp2_with (first
                    | (go_at_call 69; refine (hEn.out _).mono ?_; rintro e1 w1 ⟨rfl, rfl⟩)
                    | (go_at_call 70; refine hP.out.mono ?_; rintro e1 w1 ⟨rfl, rfl⟩)
                    | (with_reducible refine at_append1 Tryd.underlying25 hi hz0 hz1 hz2 rfl (by decide) rfl w.heap.size _ _ _ hown2 (by omega) hbz2 ?_ ?_ ?_))
                · rfl
                · rfl
                intro b3 w3 hown3 hb3
                rw [← dg1s.out] at hown3
                have hown3' := ownU8.next hown3
                have hb3s := lay (hb2s.out.trans hb3)
                have hbz3 := hb3s.out.size
                have hlen3 : (bl ++ [dgB ec]).length ≤ 1000 := by simp; omega
                clear hown2 hown3 hb3
                generalize bl ++ [dgB ec] = bl2 at *
                go_wp2_with (first
                    | (go_at_call 71; refine (hchq.out _ hb3s.out).mono ?_; rintro e1 w1 ⟨rfl, rfl⟩)
                    | (with_reducible refine at_append1 Tryd.underlying25 hi hz0 hz1 hz2 rfl (by decide) rfl w.heap.size _ _ _ hown3' (by omega) hbz3 ?_ ?_ ?_))
                · rfl
                · rfl
                intro b4 w4 hown4 hb4
                have hown4s := lay (ownU8.next hown4)
                have hb4s := lay (hb3s.out.trans hb4)
                clear hown3' hown4 hb4
                go_wp2_with fail
                go_roundw
                case rel =>
                  have R : ∃ n' : Nat, n' ≤ 8 ∧ Value.int .i64 ((n : Int) + 1) = .int .i64 (n' : Int) ∧ ownU8 w4 w.heap.size b4 (txRow p (7 - k) (HD, 0) n').1 ∧ Value.int .i64 0 = .int .i64 (((txRow p (7 - k) (HD, 0) n').2 : Nat) : Int) ∧ Below w.heap.size w w4 := ⟨n + 1, by omega, by go_num, by rw [hstep2.out, hput.out]; exact hown4s.out, by rw [hstep2.out]; rfl, hb4s.out⟩
                  first | exact R | ((repeat apply Exists.intro); exact ⟨R, rfl⟩)
                case measure => simp [intOf]; omega
          · obtain rfl : n = 8 := by omega
            generalize txRow p (7 - k) (HD, 0) 8 = st at *
            obtain ⟨bl, ec⟩ := st
            simp only at hown2 hwt hsz2 hRk
            have hrm : Value.int .i64 (7 - (k : Int) - 1) = .int .i64 (7 - ((k + 1 : Nat) : Int)) := by congr 1; omega
            have hrms := lay hrm
            clear hrm
            by_cases he : ec = 0
            · subst he
              have hput : Shut (txRank p (k + 1) = bl) := by rw [hRk.out]; rfl
              have hown2s := lay hown2
              clear hown2
              go_wp2_with fail
              go_roundw
              case rel =>
                have R : ∃ k' : Nat, k' ≤ 8 ∧ Value.int .i64 (7 - (k : Int) - 1) = .int .i64 (7 - (k' : Int)) ∧ Value.int .i64 0 = .int .i64 0 ∧ ownU8 wr w.heap.size u3 (txRank p k') ∧ Below w.heap.size w wr := ⟨k + 1, by omega, hrms.out, rfl, by rw [hput.out]; exact hown2s.out, hb2s.out⟩
                first | exact R | ((repeat apply Exists.intro); exact ⟨R, rfl⟩)
              case measure => simp [intOf]; omega
            · have hput : Shut (txRank p (k + 1) = bl ++ [dgB ec]) := by rw [hRk.out]; unfold putN; rw [if_pos (by omega)]; rfl
              obtain ⟨dg1, dg2⟩ := dg_int ec (by omega) (by omega)
              have hpos : decide ((ec : Int) > 0) = true := decide_eq_true (by omega)
              have hlen : bl.length ≤ 900 := by split at hsz2 <;> omega
              have dg1s := lay dg1
              clear dg1
              go_wp2_with (with_reducible refine at_append1 Tryd.underlying25 hi hz0 hz1 hz2 rfl (by decide) rfl w.heap.size _ _ _ hown2 (by omega) hbz2 ?_ ?_ ?_)
              · rfl
              · rfl
              intro b3 w3 hown3 hb3
              rw [← dg1s.out] at hown3
              have hown3s := lay (ownU8.next hown3)
              have hb3s := lay (hb2s.out.trans hb3)
              clear hown2 hown3 hb3
              go_wp2_with fail
              go_roundw
              case rel =>
                have R : ∃ k' : Nat, k' ≤ 8 ∧ Value.int .i64 (7 - (k : Int) - 1) = .int .i64 (7 - (k' : Int)) ∧ Value.int .i64 0 = .int .i64 0 ∧ ownU8 w3 w.heap.size b3 (txRank p k') ∧ Below w.heap.size w w3 := ⟨k + 1, by omega, hrms.out, rfl, by rw [hput.out]; exact hown3s.out, hb3s.out⟩
                first | exact R | ((repeat apply Exists.intro); exact ⟨R, rfl⟩)
              case measure => simp [intOf]; omega
    · obtain rfl : k = 8 := by omega
      have hbs := lay hbr
      have hT : Shut (txBoard p = txRank p 8) := by rfl
      have hsz := txRank_size p 8
      generalize txRank p 8 = L at *
      have hfull := hown
      obtain ⟨hn, ⟨rfl, h0⟩ | ⟨gb, cap, cur, rfl, hge, hgb, _⟩⟩ := hown
      · have hl0 : L = [] := List.eq_nil_of_length_eq_zero h0
        subst hl0
        have hcv : (convert 25 9 (.slice none 0 0)).run Tryd.prog wr = .ok (.string ⟨#[]⟩) wr := by
          rw [run_convert_bytes_string wr 25 9 5 none 0 0 Tryd.underlying25 Tryd.underlying5 Tryd.underlying9]
          simp [Conv.bytesToString]
          rfl
        clear hbr hfull hn
        go_wp2_with fail
        go_ret
        exact ⟨by rw [hT.out]; rfl, hbs.out⟩
      · have hcv := run_convert_bytes_back (P := Tryd.prog) wr 25 9 5 ⟨gb, 0, none⟩ cap L Tryd.underlying25 Tryd.underlying5 Tryd.underlying9 (fun j hj => by
          rw [add_at rfl]
          simp only [Nat.zero_add]
          have := hfull.cellAt j (by omega)
          refine this.trans ?_
          simp [u8V, hj])
        clear hbr hfull hgb hn hge
        go_wp2_with fail
        go_ret
        exact ⟨by rw [hT.out]; rfl, hbs.out⟩
end Go.Proofs.YtplkcmlpomjojaaDoor
-- Sm
namespace Go.Proofs.YtplkcmlpomjojaaDoor
open Go Go.RowKit
set_option maxHeartbeats 8000000
set_option linter.unusedSimpArgs false
set_option linter.unusedVariables false
set_option maxRecDepth 100000

def txB (p : List Int) : ByteArray := ⟨(txBoard p).toArray⟩
def sameB (p q : List Int) (tp tq : Nat) : Bool := decide (txB p = txB q) && (decide (tp = tq) && (decide (casText (p.getD 65 0) = casText (q.getD 65 0)) && decide (p.getD 66 0 = q.getD 66 0)))
/-- What reading two positions of the engine needs. -/
structure TwoAt (p q : List Int) (tp tq pg bg qg cg : Nat) (w : World) : Prop where
  ep : EngPos p tp pg bg w
  eq : EngPos q tq qg cg w
  al : IntSl w 6 .i8 allL
  wf : IntTab w 7 .u8 wPieceL
  bf : IntTab w 8 .u8 bPieceL
theorem TwoAt.below {p q : List Int} {tp tq pg bg qg cg : Nat} {w w' : World} (h : TwoAt p q tp tq pg bg qg cg w) (hb : Below w.heap.size w w') : TwoAt p q tp tq pg bg qg cg w' := ⟨h.ep.below hb, h.eq.below hb, h.al.below hb, h.wf.below hb, h.bf.below hb⟩
theorem sm_cas (s : ByteArray) (w : World) :
    Calls Tryd.prog 58 #[.string s] w fun e w' => e = .returned (.string s) ∧ w = w' := by
  go_enter Tryd.func58, Tryd.ntmps58
  go_wp2
  go_ret
  exact ⟨rfl, rfl⟩
theorem txt_no {s t : ByteArray} (h : ¬ s = t) : (s.toList == t.toList) = false := by
  cases hb : (s.toList == t.toList) with
  | false => rfl
  | true =>
    have e := eq_of_beq hb
    rw [ByteArray.toList_eq, ByteArray.toList_eq] at e
    exact absurd (ByteArray.ext (Array.ext' e)) h
theorem sm_same (p q : List Int) (hp : Pos p) (hq : Pos q) (tp tq pg bg qg cg : Nat) (htp : tp ≤ 1) (htq : tq ≤ 1) (w : World) (hS : TwoAt p q tp tq pg bg qg cg w) :
    Calls Tryd.prog 38 #[.pointer (some ⟨pg, 0, none⟩), .pointer (some ⟨qg, 0, none⟩)] w fun e w' => e = .returned (.bool (sameB p q tp tq)) ∧ Below w.heap.size w w' := by
  have hSs := lay hS
  have hpc : Shut (∀ V : World, TwoAt p q tp tq pg bg qg cg V → V.cell? ⟨pg, 0, none⟩ = some (.pointer (some ⟨bg, 0, none⟩))) := fun V h => cell_of_row V pg 0 _ _ _ h.ep.ps
  have hqc : Shut (∀ V : World, TwoAt p q tp tq pg bg qg cg V → V.cell? ⟨qg, 0, none⟩ = some (.pointer (some ⟨cg, 0, none⟩))) := fun V h => cell_of_row V qg 0 _ _ _ h.eq.ps
  have hpt : Shut (∀ V : World, TwoAt p q tp tq pg bg qg cg V → V.cell? ⟨pg, 5, none⟩ = some (.int .i8 ((tp : Int) + 1))) := fun V h => cell_of_row V pg 5 _ _ _ h.ep.ps
  have hqt : Shut (∀ V : World, TwoAt p q tp tq pg bg qg cg V → V.cell? ⟨qg, 5, none⟩ = some (.int .i8 ((tq : Int) + 1))) := fun V h => cell_of_row V qg 5 _ _ _ h.eq.ps
  have hps : Shut (∀ V : World, TwoAt p q tp tq pg bg qg cg V → V.cell? ⟨pg, 1, none⟩ = some (.string (casText (p.getD 65 0)))) := fun V h => cell_of_row V pg 1 _ _ _ h.ep.ps
  have hqs : Shut (∀ V : World, TwoAt p q tp tq pg bg qg cg V → V.cell? ⟨qg, 1, none⟩ = some (.string (casText (q.getD 65 0)))) := fun V h => cell_of_row V qg 1 _ _ _ h.eq.ps
  have hpe : Shut (∀ V : World, TwoAt p q tp tq pg bg qg cg V → V.cell? ⟨pg, 6, none⟩ = some (.int .i8 (p.getD 66 0))) := fun V h => cell_of_row V pg 6 _ _ _ h.ep.ps
  have hqe : Shut (∀ V : World, TwoAt p q tp tq pg bg qg cg V → V.cell? ⟨qg, 6, none⟩ = some (.int .i8 (q.getD 66 0))) := fun V h => cell_of_row V qg 6 _ _ _ h.eq.ps
  have hsp : Shut (∀ V : World, TwoAt p q tp tq pg bg qg cg V → Calls Tryd.prog 57 #[.pointer (some ⟨bg, 0, none⟩)] V fun e w' => e = .returned (.string (txB p)) ∧ Below V.heap.size V w') := fun V h => fs_string p (fun i hi => ⟨hp.lo i hi, hp.hi i hi⟩) bg V h.ep.bd h.al h.wf h.bf
  have hsq : Shut (∀ V : World, TwoAt p q tp tq pg bg qg cg V → Calls Tryd.prog 57 #[.pointer (some ⟨cg, 0, none⟩)] V fun e w' => e = .returned (.string (txB q)) ∧ Below V.heap.size V w') := fun V h => fs_string q (fun i hi => ⟨hq.lo i hi, hq.hi i hi⟩) cg V h.eq.bd h.al h.wf h.bf
  have hR := lay (show sameB p q tp tq = (decide (txB p = txB q) && (decide (tp = tq) && (decide (casText (p.getD 65 0) = casText (q.getD 65 0)) && decide (p.getD 66 0 = q.getD 66 0)))) from rfl)
  clear hp hq
  generalize sameB p q tp tq = res at *
  generalize txB p = sp at *
  generalize txB q = sq at *
  generalize casText (p.getD 65 0) = cp at *
  generalize casText (q.getD 65 0) = cq at *
  generalize p.getD 66 0 = ep at *
  generalize q.getD 66 0 = eq at *
  go_enter Tryd.func38, Tryd.ntmps38
  go_upto_region 1 with (fail)
  have hS1 := lay (show TwoAt p q tp tq pg bg qg cg w.drew from hSs.out.below (drewN_below w 1))
  by_cases hx0 : sp = sq
  case neg =>
    have hf : (sp.toList == sq.toList) = false := txt_no hx0
    have hy0 := lay hx0; clear hx0
    refine wp_region_held_drew (S := fun w' : World => TwoAt p q tp tq pg bg qg cg w') (by kernel_rfl) hS1.out (fun hHeld => ?_)
    refine wpAnyH_take (i := 0) (v := ?vn0_1_0) rfl (by kernel_rfl) (by kernel_rfl) (by kernel_rfl) (fun _ _ _ h => h) (Or.inl ⟨by rfl, ?yn0_1_0⟩) hHeld ?rn0_1_0
    case yn0_1_0 => (intro wq hSw; clear hSw; go_simp; try with_reducible rfl)
    try simp only [List.getElem_toArray, List.getElem_cons_zero, List.getElem_cons_succ, Act.put, List.setIfInBounds_toArray, List.set_cons_zero, List.set_cons_succ]
    refine wpAnyH_take (i := 1) (v := ?vn0_2_1) rfl (by kernel_rfl) (by kernel_rfl) (by kernel_rfl) (fun _ _ _ h => h) (Or.inl ⟨by rfl, ?yn0_2_1⟩) hHeld ?rn0_2_1
    case yn0_2_1 => (intro wq hSw; clear hSw; go_simp; try with_reducible rfl)
    try simp only [List.getElem_toArray, List.getElem_cons_zero, List.getElem_cons_succ, Act.put, List.setIfInBounds_toArray, List.set_cons_zero, List.set_cons_succ]
    refine wpAnyH_take (i := 2) (v := ?vn0_3_2) rfl (by kernel_rfl) (by kernel_rfl) (by kernel_rfl) (fun _ _ _ h => h) (Or.inl ⟨by rfl, ?yn0_3_2⟩) hHeld ?rn0_3_2
    case yn0_3_2 => (intro wq hSw; clear hSw; go_simp; try with_reducible rfl)
    try simp only [List.getElem_toArray, List.getElem_cons_zero, List.getElem_cons_succ, Act.put, List.setIfInBounds_toArray, List.set_cons_zero, List.set_cons_succ]
    refine wpAnyH_take (i := 3) (v := ?vn0_4_3) rfl (by kernel_rfl) (by kernel_rfl) (by kernel_rfl) (fun _ _ _ h => h) (Or.inl ⟨by rfl, ?yn0_4_3⟩) hHeld ?rn0_4_3
    case yn0_4_3 => (intro wq hSw; have hq := hpc.out _ hSw; clear hSw; go_simp; try with_reducible rfl)
    try simp only [List.getElem_toArray, List.getElem_cons_zero, List.getElem_cons_succ, Act.put, List.setIfInBounds_toArray, List.set_cons_zero, List.set_cons_succ]
    refine wpAnyH_take (i := 5) (v := ?vn0_5_5) rfl (by kernel_rfl) (by kernel_rfl) (by kernel_rfl) (fun _ _ _ h => h) (Or.inl ⟨by rfl, ?yn0_5_5⟩) hHeld ?rn0_5_5
    case yn0_5_5 => (intro wq hSw; clear hSw; go_simp; try with_reducible rfl)
    try simp only [List.getElem_toArray, List.getElem_cons_zero, List.getElem_cons_succ, Act.put, List.setIfInBounds_toArray, List.set_cons_zero, List.set_cons_succ]
    refine wpAnyH_take (i := 6) (v := ?vn0_6_6) rfl (by kernel_rfl) (by kernel_rfl) (by kernel_rfl) (fun _ _ _ h => h) (Or.inl ⟨by rfl, ?yn0_6_6⟩) hHeld ?rn0_6_6
    case yn0_6_6 => (intro wq hSw; clear hSw; go_simp; try with_reducible rfl)
    try simp only [List.getElem_toArray, List.getElem_cons_zero, List.getElem_cons_succ, Act.put, List.setIfInBounds_toArray, List.set_cons_zero, List.set_cons_succ]
    refine wpAnyH_take (i := 7) (v := ?vn0_7_7) rfl (by kernel_rfl) (by kernel_rfl) (by kernel_rfl) (fun _ _ _ h => h) (Or.inl ⟨by rfl, ?yn0_7_7⟩) hHeld ?rn0_7_7
    case yn0_7_7 => (intro wq hSw; clear hSw; go_simp; try with_reducible rfl)
    try simp only [List.getElem_toArray, List.getElem_cons_zero, List.getElem_cons_succ, Act.put, List.setIfInBounds_toArray, List.set_cons_zero, List.set_cons_succ]
    refine wpAnyH_take (i := 8) (v := ?vn0_8_8) rfl (by kernel_rfl) (by kernel_rfl) (by kernel_rfl) (fun _ _ _ h => h) (Or.inl ⟨by rfl, ?yn0_8_8⟩) hHeld ?rn0_8_8
    case yn0_8_8 => (intro wq hSw; have hq := hqc.out _ hSw; clear hSw; go_simp; try with_reducible rfl)
    try simp only [List.getElem_toArray, List.getElem_cons_zero, List.getElem_cons_succ, Act.put, List.setIfInBounds_toArray, List.set_cons_zero, List.set_cons_succ]
    refine wpAnyH_ready (rs := [4]) (by kernel_rfl) (by simp) ?_
    refine AllReadyH.cons rfl (fun K hK => ?_) AllReadyH.nil
    try simp only [List.getElem_toArray, List.getElem_cons_zero, List.getElem_cons_succ, Act.put, List.setIfInBounds_toArray, List.set_cons_zero, List.set_cons_succ]
    try rw [if_pos (by rfl)]
    go_simp
    refine (hsp.out _ hHeld).mono ?_
    rintro e1 w1 ⟨rfl, hb1⟩
    go_wp2_with fail
    refine hK.out _ _ (hHeld.below hb1) (fun hHeld => ?_)
    clear hK K
    try simp only [List.getElem_toArray, List.getElem_cons_zero, List.getElem_cons_succ, Act.put, List.setIfInBounds_toArray, List.set_cons_zero, List.set_cons_succ]
    refine wpAnyH_ready (rs := [9]) (by kernel_rfl) (by simp) ?_
    refine AllReadyH.cons rfl (fun K hK => ?_) AllReadyH.nil
    try simp only [List.getElem_toArray, List.getElem_cons_zero, List.getElem_cons_succ, Act.put, List.setIfInBounds_toArray, List.set_cons_zero, List.set_cons_succ]
    try rw [if_pos (by rfl)]
    go_simp
    refine (hsq.out _ hHeld).mono ?_
    rintro e2 w2 ⟨rfl, hb2⟩
    go_wp2_with fail
    refine hK.out _ _ (hHeld.below hb2) (fun hHeld => ?_)
    clear hK K
    try simp only [List.getElem_toArray, List.getElem_cons_zero, List.getElem_cons_succ, Act.put, List.setIfInBounds_toArray, List.set_cons_zero, List.set_cons_succ]
    refine wpAnyH_take (i := 10) (v := ?vn0_9_10) rfl (by kernel_rfl) (by kernel_rfl) (by kernel_rfl) (fun _ _ _ h => h) (Or.inl ⟨by rfl, ?yn0_9_10⟩) hHeld ?rn0_9_10
    case yn0_9_10 => (intro wq hSw; clear hSw; go_simp; try with_reducible rfl)
    try simp only [List.getElem_toArray, List.getElem_cons_zero, List.getElem_cons_succ, Act.put, List.setIfInBounds_toArray, List.set_cons_zero, List.set_cons_succ]
    refine wpAnyH_take (i := 11) (v := ?vn0_10_11) rfl (by kernel_rfl) (by kernel_rfl) (by kernel_rfl) (fun _ _ _ h => h) (Or.inl ⟨by rfl, ?yn0_10_11⟩) hHeld ?rn0_10_11
    case yn0_10_11 => (intro wq hSw; clear hSw; go_simp; try with_reducible rfl)
    try simp only [List.getElem_toArray, List.getElem_cons_zero, List.getElem_cons_succ, Act.put, List.setIfInBounds_toArray, List.set_cons_zero, List.set_cons_succ]
    refine wpAnyH_take (i := 12) (v := undef) rfl (by kernel_rfl) (by kernel_rfl) (by kernel_rfl) (fun _ _ _ h => h) (Or.inr ⟨by rfl, rfl⟩) hHeld ?_
    try simp only [List.getElem_toArray, List.getElem_cons_zero, List.getElem_cons_succ, Act.put, List.setIfInBounds_toArray, List.set_cons_zero, List.set_cons_succ]
    refine wpAnyH_take (i := 13) (v := undef) rfl (by kernel_rfl) (by kernel_rfl) (by kernel_rfl) (fun _ _ _ h => h) (Or.inr ⟨by rfl, rfl⟩) hHeld ?_
    try simp only [List.getElem_toArray, List.getElem_cons_zero, List.getElem_cons_succ, Act.put, List.setIfInBounds_toArray, List.set_cons_zero, List.set_cons_succ]
    refine wpAnyH_take (i := 14) (v := undef) rfl (by kernel_rfl) (by kernel_rfl) (by kernel_rfl) (fun _ _ _ h => h) (Or.inr ⟨by rfl, rfl⟩) hHeld ?_
    try simp only [List.getElem_toArray, List.getElem_cons_zero, List.getElem_cons_succ, Act.put, List.setIfInBounds_toArray, List.set_cons_zero, List.set_cons_succ]
    refine wpAnyH_take (i := 15) (v := undef) rfl (by kernel_rfl) (by kernel_rfl) (by kernel_rfl) (fun _ _ _ h => h) (Or.inr ⟨by rfl, rfl⟩) hHeld ?_
    try simp only [List.getElem_toArray, List.getElem_cons_zero, List.getElem_cons_succ, Act.put, List.setIfInBounds_toArray, List.set_cons_zero, List.set_cons_succ]
    refine wpAnyH_take (i := 16) (v := undef) rfl (by kernel_rfl) (by kernel_rfl) (by kernel_rfl) (fun _ _ _ h => h) (Or.inr ⟨by rfl, rfl⟩) hHeld ?_
    try simp only [List.getElem_toArray, List.getElem_cons_zero, List.getElem_cons_succ, Act.put, List.setIfInBounds_toArray, List.set_cons_zero, List.set_cons_succ]
    refine wpAnyH_take (i := 17) (v := undef) rfl (by kernel_rfl) (by kernel_rfl) (by kernel_rfl) (fun _ _ _ h => h) (Or.inr ⟨by rfl, rfl⟩) hHeld ?_
    try simp only [List.getElem_toArray, List.getElem_cons_zero, List.getElem_cons_succ, Act.put, List.setIfInBounds_toArray, List.set_cons_zero, List.set_cons_succ]
    refine wpAnyH_take (i := 18) (v := undef) rfl (by kernel_rfl) (by kernel_rfl) (by kernel_rfl) (fun _ _ _ h => h) (Or.inr ⟨by rfl, rfl⟩) hHeld ?_
    try simp only [List.getElem_toArray, List.getElem_cons_zero, List.getElem_cons_succ, Act.put, List.setIfInBounds_toArray, List.set_cons_zero, List.set_cons_succ]
    refine wpAnyH_take (i := 19) (v := undef) rfl (by kernel_rfl) (by kernel_rfl) (by kernel_rfl) (fun _ _ _ h => h) (Or.inr ⟨by rfl, rfl⟩) hHeld ?_
    try simp only [List.getElem_toArray, List.getElem_cons_zero, List.getElem_cons_succ, Act.put, List.setIfInBounds_toArray, List.set_cons_zero, List.set_cons_succ]
    refine wpAnyH_take (i := 20) (v := undef) rfl (by kernel_rfl) (by kernel_rfl) (by kernel_rfl) (fun _ _ _ h => h) (Or.inr ⟨by rfl, rfl⟩) hHeld ?_
    try simp only [List.getElem_toArray, List.getElem_cons_zero, List.getElem_cons_succ, Act.put, List.setIfInBounds_toArray, List.set_cons_zero, List.set_cons_succ]
    refine wpAnyH_take (i := 21) (v := ?vn0_11_21) rfl (by kernel_rfl) (by kernel_rfl) (by kernel_rfl) (fun _ _ _ h => h) (Or.inl ⟨by rfl, ?yn0_11_21⟩) hHeld ?rn0_11_21
    case yn0_11_21 => (intro wq hSw; clear hSw; go_simp; try with_reducible rfl)
    try simp only [List.getElem_toArray, List.getElem_cons_zero, List.getElem_cons_succ, Act.put, List.setIfInBounds_toArray, List.set_cons_zero, List.set_cons_succ]
    refine wpAnyH_take (i := 22) (v := ?vn0_12_22) rfl (by kernel_rfl) (by kernel_rfl) (by kernel_rfl) (fun _ _ _ h => h) (Or.inl ⟨by rfl, ?yn0_12_22⟩) hHeld ?rn0_12_22
    case yn0_12_22 => (intro wq hSw; clear hSw; go_simp; try with_reducible rfl)
    try simp only [List.getElem_toArray, List.getElem_cons_zero, List.getElem_cons_succ, Act.put, List.setIfInBounds_toArray, List.set_cons_zero, List.set_cons_succ]
    refine wpAnyH_take (i := 23) (v := undef) rfl (by kernel_rfl) (by kernel_rfl) (by kernel_rfl) (fun _ _ _ h => h) (Or.inr ⟨by rfl, rfl⟩) hHeld ?_
    try simp only [List.getElem_toArray, List.getElem_cons_zero, List.getElem_cons_succ, Act.put, List.setIfInBounds_toArray, List.set_cons_zero, List.set_cons_succ]
    refine wpAnyH_take (i := 24) (v := undef) rfl (by kernel_rfl) (by kernel_rfl) (by kernel_rfl) (fun _ _ _ h => h) (Or.inr ⟨by rfl, rfl⟩) hHeld ?_
    try simp only [List.getElem_toArray, List.getElem_cons_zero, List.getElem_cons_succ, Act.put, List.setIfInBounds_toArray, List.set_cons_zero, List.set_cons_succ]
    refine wpAnyH_take (i := 25) (v := undef) rfl (by kernel_rfl) (by kernel_rfl) (by kernel_rfl) (fun _ _ _ h => h) (Or.inr ⟨by rfl, rfl⟩) hHeld ?_
    try simp only [List.getElem_toArray, List.getElem_cons_zero, List.getElem_cons_succ, Act.put, List.setIfInBounds_toArray, List.set_cons_zero, List.set_cons_succ]
    refine wpAnyH_take (i := 26) (v := undef) rfl (by kernel_rfl) (by kernel_rfl) (by kernel_rfl) (fun _ _ _ h => h) (Or.inr ⟨by rfl, rfl⟩) hHeld ?_
    try simp only [List.getElem_toArray, List.getElem_cons_zero, List.getElem_cons_succ, Act.put, List.setIfInBounds_toArray, List.set_cons_zero, List.set_cons_succ]
    refine wpAnyH_take (i := 27) (v := undef) rfl (by kernel_rfl) (by kernel_rfl) (by kernel_rfl) (fun _ _ _ h => h) (Or.inr ⟨by rfl, rfl⟩) hHeld ?_
    try simp only [List.getElem_toArray, List.getElem_cons_zero, List.getElem_cons_succ, Act.put, List.setIfInBounds_toArray, List.set_cons_zero, List.set_cons_succ]
    refine wpAnyH_take (i := 28) (v := undef) rfl (by kernel_rfl) (by kernel_rfl) (by kernel_rfl) (fun _ _ _ h => h) (Or.inr ⟨by rfl, rfl⟩) hHeld ?_
    try simp only [List.getElem_toArray, List.getElem_cons_zero, List.getElem_cons_succ, Act.put, List.setIfInBounds_toArray, List.set_cons_zero, List.set_cons_succ]
    refine wpAnyH_take (i := 29) (v := undef) rfl (by kernel_rfl) (by kernel_rfl) (by kernel_rfl) (fun _ _ _ h => h) (Or.inr ⟨by rfl, rfl⟩) hHeld ?_
    try simp only [List.getElem_toArray, List.getElem_cons_zero, List.getElem_cons_succ, Act.put, List.setIfInBounds_toArray, List.set_cons_zero, List.set_cons_succ]
    refine wpAnyH_take (i := 30) (v := undef) rfl (by kernel_rfl) (by kernel_rfl) (by kernel_rfl) (fun _ _ _ h => h) (Or.inr ⟨by rfl, rfl⟩) hHeld ?_
    try simp only [List.getElem_toArray, List.getElem_cons_zero, List.getElem_cons_succ, Act.put, List.setIfInBounds_toArray, List.set_cons_zero, List.set_cons_succ]
    refine wpAnyH_take (i := 31) (v := undef) rfl (by kernel_rfl) (by kernel_rfl) (by kernel_rfl) (fun _ _ _ h => h) (Or.inr ⟨by rfl, rfl⟩) hHeld ?_
    try simp only [List.getElem_toArray, List.getElem_cons_zero, List.getElem_cons_succ, Act.put, List.setIfInBounds_toArray, List.set_cons_zero, List.set_cons_succ]
    refine wpAnyH_take (i := 32) (v := undef) rfl (by kernel_rfl) (by kernel_rfl) (by kernel_rfl) (fun _ _ _ h => h) (Or.inr ⟨by rfl, rfl⟩) hHeld ?_
    try simp only [List.getElem_toArray, List.getElem_cons_zero, List.getElem_cons_succ, Act.put, List.setIfInBounds_toArray, List.set_cons_zero, List.set_cons_succ]
    refine wpAnyH_take (i := 33) (v := undef) rfl (by kernel_rfl) (by kernel_rfl) (by kernel_rfl) (fun _ _ _ h => h) (Or.inr ⟨by rfl, rfl⟩) hHeld ?_
    try simp only [List.getElem_toArray, List.getElem_cons_zero, List.getElem_cons_succ, Act.put, List.setIfInBounds_toArray, List.set_cons_zero, List.set_cons_succ]
    refine wpAnyH_take (i := 34) (v := ?vn0_13_34) rfl (by kernel_rfl) (by kernel_rfl) (by kernel_rfl) (fun _ _ _ h => h) (Or.inl ⟨by rfl, ?yn0_13_34⟩) hHeld ?rn0_13_34
    case yn0_13_34 => (intro wq hSw; clear hSw; go_simp; try with_reducible rfl)
    try simp only [List.getElem_toArray, List.getElem_cons_zero, List.getElem_cons_succ, Act.put, List.setIfInBounds_toArray, List.set_cons_zero, List.set_cons_succ]
    refine wpAnyH_take (i := 35) (v := ?vn0_14_35) rfl (by kernel_rfl) (by kernel_rfl) (by kernel_rfl) (fun _ _ _ h => h) (Or.inl ⟨by rfl, ?yn0_14_35⟩) hHeld ?rn0_14_35
    case yn0_14_35 => (intro wq hSw; clear hSw; go_simp; try with_reducible rfl)
    try simp only [List.getElem_toArray, List.getElem_cons_zero, List.getElem_cons_succ, Act.put, List.setIfInBounds_toArray, List.set_cons_zero, List.set_cons_succ]
    refine wpAnyH_take (i := 36) (v := undef) rfl (by kernel_rfl) (by kernel_rfl) (by kernel_rfl) (fun _ _ _ h => h) (Or.inr ⟨by rfl, rfl⟩) hHeld ?_
    try simp only [List.getElem_toArray, List.getElem_cons_zero, List.getElem_cons_succ, Act.put, List.setIfInBounds_toArray, List.set_cons_zero, List.set_cons_succ]
    refine wpAnyH_take (i := 37) (v := undef) rfl (by kernel_rfl) (by kernel_rfl) (by kernel_rfl) (fun _ _ _ h => h) (Or.inr ⟨by rfl, rfl⟩) hHeld ?_
    try simp only [List.getElem_toArray, List.getElem_cons_zero, List.getElem_cons_succ, Act.put, List.setIfInBounds_toArray, List.set_cons_zero, List.set_cons_succ]
    refine wpAnyH_take (i := 38) (v := undef) rfl (by kernel_rfl) (by kernel_rfl) (by kernel_rfl) (fun _ _ _ h => h) (Or.inr ⟨by rfl, rfl⟩) hHeld ?_
    try simp only [List.getElem_toArray, List.getElem_cons_zero, List.getElem_cons_succ, Act.put, List.setIfInBounds_toArray, List.set_cons_zero, List.set_cons_succ]
    refine wpAnyH_take (i := 39) (v := undef) rfl (by kernel_rfl) (by kernel_rfl) (by kernel_rfl) (fun _ _ _ h => h) (Or.inr ⟨by rfl, rfl⟩) hHeld ?_
    try simp only [List.getElem_toArray, List.getElem_cons_zero, List.getElem_cons_succ, Act.put, List.setIfInBounds_toArray, List.set_cons_zero, List.set_cons_succ]
    refine wpAnyH_take (i := 40) (v := undef) rfl (by kernel_rfl) (by kernel_rfl) (by kernel_rfl) (fun _ _ _ h => h) (Or.inr ⟨by rfl, rfl⟩) hHeld ?_
    try simp only [List.getElem_toArray, List.getElem_cons_zero, List.getElem_cons_succ, Act.put, List.setIfInBounds_toArray, List.set_cons_zero, List.set_cons_succ]
    refine wpAnyH_take (i := 41) (v := undef) rfl (by kernel_rfl) (by kernel_rfl) (by kernel_rfl) (fun _ _ _ h => h) (Or.inr ⟨by rfl, rfl⟩) hHeld ?_
    try simp only [List.getElem_toArray, List.getElem_cons_zero, List.getElem_cons_succ, Act.put, List.setIfInBounds_toArray, List.set_cons_zero, List.set_cons_succ]
    refine wpAnyH_take (i := 42) (v := undef) rfl (by kernel_rfl) (by kernel_rfl) (by kernel_rfl) (fun _ _ _ h => h) (Or.inr ⟨by rfl, rfl⟩) hHeld ?_
    try simp only [List.getElem_toArray, List.getElem_cons_zero, List.getElem_cons_succ, Act.put, List.setIfInBounds_toArray, List.set_cons_zero, List.set_cons_succ]
    refine wpAnyH_take (i := 43) (v := undef) rfl (by kernel_rfl) (by kernel_rfl) (by kernel_rfl) (fun _ _ _ h => h) (Or.inr ⟨by rfl, rfl⟩) hHeld ?_
    try simp only [List.getElem_toArray, List.getElem_cons_zero, List.getElem_cons_succ, Act.put, List.setIfInBounds_toArray, List.set_cons_zero, List.set_cons_succ]
    refine wpAnyH_take (i := 44) (v := undef) rfl (by kernel_rfl) (by kernel_rfl) (by kernel_rfl) (fun _ _ _ h => h) (Or.inr ⟨by rfl, rfl⟩) hHeld ?_
    try simp only [List.getElem_toArray, List.getElem_cons_zero, List.getElem_cons_succ, Act.put, List.setIfInBounds_toArray, List.set_cons_zero, List.set_cons_succ]
    refine wpAnyH_take (i := 45) (v := ?vn0_15_45) rfl (by kernel_rfl) (by kernel_rfl) (by kernel_rfl) (fun _ _ _ h => h) (Or.inl ⟨by rfl, ?yn0_15_45⟩) hHeld ?rn0_15_45
    case yn0_15_45 => (intro wq hSw; clear hSw; go_simp; try with_reducible rfl)
    try simp only [List.getElem_toArray, List.getElem_cons_zero, List.getElem_cons_succ, Act.put, List.setIfInBounds_toArray, List.set_cons_zero, List.set_cons_succ]
    refine wpAnyH_take (i := 46) (v := ?vn0_16_46) rfl (by kernel_rfl) (by kernel_rfl) (by kernel_rfl) (fun _ _ _ h => h) (Or.inl ⟨by rfl, ?yn0_16_46⟩) hHeld ?rn0_16_46
    case yn0_16_46 => (intro wq hSw; clear hSw; go_simp; try with_reducible rfl)
    try simp only [List.getElem_toArray, List.getElem_cons_zero, List.getElem_cons_succ, Act.put, List.setIfInBounds_toArray, List.set_cons_zero, List.set_cons_succ]
    refine wpAnyH_done (by kernel_rfl) ?_ _
    clear hHeld
    go_wp2_with fail
    go_ret
    exact ⟨by rw [hR.out]; simp [hy0.out], (drewN_below w 1).trans (hb1.trans (hb2.mono hb1.size))⟩
  case pos =>
    have ht0 : (sp.toList == sq.toList) = true := by rw [hx0]; exact beq_self_eq_true _
    have hy0 := lay hx0; clear hx0
    by_cases hx1 : tp = tq
    case neg =>
      have hf : ((tp : Int) + 1 == (tq : Int) + 1) = false := by simp; omega
      have hy1 := lay hx1; clear hx1
      refine wp_region_held_drew (S := fun w' : World => TwoAt p q tp tq pg bg qg cg w') (by kernel_rfl) hS1.out (fun hHeld => ?_)
      refine wpAnyH_take (i := 0) (v := ?vn1_1_0) rfl (by kernel_rfl) (by kernel_rfl) (by kernel_rfl) (fun _ _ _ h => h) (Or.inl ⟨by rfl, ?yn1_1_0⟩) hHeld ?rn1_1_0
      case yn1_1_0 => (intro wq hSw; clear hSw; go_simp; try with_reducible rfl)
      try simp only [List.getElem_toArray, List.getElem_cons_zero, List.getElem_cons_succ, Act.put, List.setIfInBounds_toArray, List.set_cons_zero, List.set_cons_succ]
      refine wpAnyH_take (i := 1) (v := ?vn1_2_1) rfl (by kernel_rfl) (by kernel_rfl) (by kernel_rfl) (fun _ _ _ h => h) (Or.inl ⟨by rfl, ?yn1_2_1⟩) hHeld ?rn1_2_1
      case yn1_2_1 => (intro wq hSw; clear hSw; go_simp; try with_reducible rfl)
      try simp only [List.getElem_toArray, List.getElem_cons_zero, List.getElem_cons_succ, Act.put, List.setIfInBounds_toArray, List.set_cons_zero, List.set_cons_succ]
      refine wpAnyH_take (i := 2) (v := ?vn1_3_2) rfl (by kernel_rfl) (by kernel_rfl) (by kernel_rfl) (fun _ _ _ h => h) (Or.inl ⟨by rfl, ?yn1_3_2⟩) hHeld ?rn1_3_2
      case yn1_3_2 => (intro wq hSw; clear hSw; go_simp; try with_reducible rfl)
      try simp only [List.getElem_toArray, List.getElem_cons_zero, List.getElem_cons_succ, Act.put, List.setIfInBounds_toArray, List.set_cons_zero, List.set_cons_succ]
      refine wpAnyH_take (i := 3) (v := ?vn1_4_3) rfl (by kernel_rfl) (by kernel_rfl) (by kernel_rfl) (fun _ _ _ h => h) (Or.inl ⟨by rfl, ?yn1_4_3⟩) hHeld ?rn1_4_3
      case yn1_4_3 => (intro wq hSw; have hq := hpc.out _ hSw; clear hSw; go_simp; try with_reducible rfl)
      try simp only [List.getElem_toArray, List.getElem_cons_zero, List.getElem_cons_succ, Act.put, List.setIfInBounds_toArray, List.set_cons_zero, List.set_cons_succ]
      refine wpAnyH_take (i := 5) (v := ?vn1_5_5) rfl (by kernel_rfl) (by kernel_rfl) (by kernel_rfl) (fun _ _ _ h => h) (Or.inl ⟨by rfl, ?yn1_5_5⟩) hHeld ?rn1_5_5
      case yn1_5_5 => (intro wq hSw; clear hSw; go_simp; try with_reducible rfl)
      try simp only [List.getElem_toArray, List.getElem_cons_zero, List.getElem_cons_succ, Act.put, List.setIfInBounds_toArray, List.set_cons_zero, List.set_cons_succ]
      refine wpAnyH_take (i := 6) (v := ?vn1_6_6) rfl (by kernel_rfl) (by kernel_rfl) (by kernel_rfl) (fun _ _ _ h => h) (Or.inl ⟨by rfl, ?yn1_6_6⟩) hHeld ?rn1_6_6
      case yn1_6_6 => (intro wq hSw; clear hSw; go_simp; try with_reducible rfl)
      try simp only [List.getElem_toArray, List.getElem_cons_zero, List.getElem_cons_succ, Act.put, List.setIfInBounds_toArray, List.set_cons_zero, List.set_cons_succ]
      refine wpAnyH_take (i := 7) (v := ?vn1_7_7) rfl (by kernel_rfl) (by kernel_rfl) (by kernel_rfl) (fun _ _ _ h => h) (Or.inl ⟨by rfl, ?yn1_7_7⟩) hHeld ?rn1_7_7
      case yn1_7_7 => (intro wq hSw; clear hSw; go_simp; try with_reducible rfl)
      try simp only [List.getElem_toArray, List.getElem_cons_zero, List.getElem_cons_succ, Act.put, List.setIfInBounds_toArray, List.set_cons_zero, List.set_cons_succ]
      refine wpAnyH_take (i := 8) (v := ?vn1_8_8) rfl (by kernel_rfl) (by kernel_rfl) (by kernel_rfl) (fun _ _ _ h => h) (Or.inl ⟨by rfl, ?yn1_8_8⟩) hHeld ?rn1_8_8
      case yn1_8_8 => (intro wq hSw; have hq := hqc.out _ hSw; clear hSw; go_simp; try with_reducible rfl)
      try simp only [List.getElem_toArray, List.getElem_cons_zero, List.getElem_cons_succ, Act.put, List.setIfInBounds_toArray, List.set_cons_zero, List.set_cons_succ]
      refine wpAnyH_ready (rs := [4]) (by kernel_rfl) (by simp) ?_
      refine AllReadyH.cons rfl (fun K hK => ?_) AllReadyH.nil
      try simp only [List.getElem_toArray, List.getElem_cons_zero, List.getElem_cons_succ, Act.put, List.setIfInBounds_toArray, List.set_cons_zero, List.set_cons_succ]
      try rw [if_pos (by rfl)]
      go_simp
      refine (hsp.out _ hHeld).mono ?_
      rintro e1 w1 ⟨rfl, hb1⟩
      go_wp2_with fail
      refine hK.out _ _ (hHeld.below hb1) (fun hHeld => ?_)
      clear hK K
      try simp only [List.getElem_toArray, List.getElem_cons_zero, List.getElem_cons_succ, Act.put, List.setIfInBounds_toArray, List.set_cons_zero, List.set_cons_succ]
      refine wpAnyH_ready (rs := [9]) (by kernel_rfl) (by simp) ?_
      refine AllReadyH.cons rfl (fun K hK => ?_) AllReadyH.nil
      try simp only [List.getElem_toArray, List.getElem_cons_zero, List.getElem_cons_succ, Act.put, List.setIfInBounds_toArray, List.set_cons_zero, List.set_cons_succ]
      try rw [if_pos (by rfl)]
      go_simp
      refine (hsq.out _ hHeld).mono ?_
      rintro e2 w2 ⟨rfl, hb2⟩
      go_wp2_with fail
      refine hK.out _ _ (hHeld.below hb2) (fun hHeld => ?_)
      clear hK K
      try simp only [List.getElem_toArray, List.getElem_cons_zero, List.getElem_cons_succ, Act.put, List.setIfInBounds_toArray, List.set_cons_zero, List.set_cons_succ]
      refine wpAnyH_take (i := 10) (v := ?vn1_9_10) rfl (by kernel_rfl) (by kernel_rfl) (by kernel_rfl) (fun _ _ _ h => h) (Or.inl ⟨by rfl, ?yn1_9_10⟩) hHeld ?rn1_9_10
      case yn1_9_10 => (intro wq hSw; clear hSw; go_simp; try with_reducible rfl)
      try simp only [List.getElem_toArray, List.getElem_cons_zero, List.getElem_cons_succ, Act.put, List.setIfInBounds_toArray, List.set_cons_zero, List.set_cons_succ]
      refine wpAnyH_take (i := 11) (v := ?vn1_10_11) rfl (by kernel_rfl) (by kernel_rfl) (by kernel_rfl) (fun _ _ _ h => h) (Or.inl ⟨by rfl, ?yn1_10_11⟩) hHeld ?rn1_10_11
      case yn1_10_11 => (intro wq hSw; clear hSw; go_simp; try with_reducible rfl)
      try simp only [List.getElem_toArray, List.getElem_cons_zero, List.getElem_cons_succ, Act.put, List.setIfInBounds_toArray, List.set_cons_zero, List.set_cons_succ]
      refine wpAnyH_take (i := 12) (v := ?vn1_11_12) rfl (by kernel_rfl) (by kernel_rfl) (by kernel_rfl) (fun _ _ _ h => h) (Or.inl ⟨by rfl, ?yn1_11_12⟩) hHeld ?rn1_11_12
      case yn1_11_12 => (intro wq hSw; clear hSw; go_simp; try with_reducible rfl)
      try simp only [List.getElem_toArray, List.getElem_cons_zero, List.getElem_cons_succ, Act.put, List.setIfInBounds_toArray, List.set_cons_zero, List.set_cons_succ]
      refine wpAnyH_take (i := 13) (v := ?vn1_12_13) rfl (by kernel_rfl) (by kernel_rfl) (by kernel_rfl) (fun _ _ _ h => h) (Or.inl ⟨by rfl, ?yn1_12_13⟩) hHeld ?rn1_12_13
      case yn1_12_13 => (intro wq hSw; clear hSw; go_simp; try with_reducible rfl)
      try simp only [List.getElem_toArray, List.getElem_cons_zero, List.getElem_cons_succ, Act.put, List.setIfInBounds_toArray, List.set_cons_zero, List.set_cons_succ]
      refine wpAnyH_take (i := 14) (v := ?vn1_13_14) rfl (by kernel_rfl) (by kernel_rfl) (by kernel_rfl) (fun _ _ _ h => h) (Or.inl ⟨by rfl, ?yn1_13_14⟩) hHeld ?rn1_13_14
      case yn1_13_14 => (intro wq hSw; clear hSw; go_simp; try with_reducible rfl)
      try simp only [List.getElem_toArray, List.getElem_cons_zero, List.getElem_cons_succ, Act.put, List.setIfInBounds_toArray, List.set_cons_zero, List.set_cons_succ]
      refine wpAnyH_take (i := 15) (v := ?vn1_14_15) rfl (by kernel_rfl) (by kernel_rfl) (by kernel_rfl) (fun _ _ _ h => h) (Or.inl ⟨by rfl, ?yn1_14_15⟩) hHeld ?rn1_14_15
      case yn1_14_15 => (intro wq hSw; have hq := hpt.out _ hSw; clear hSw; go_simp; try with_reducible rfl)
      try simp only [List.getElem_toArray, List.getElem_cons_zero, List.getElem_cons_succ, Act.put, List.setIfInBounds_toArray, List.set_cons_zero, List.set_cons_succ]
      refine wpAnyH_take (i := 16) (v := ?vn1_15_16) rfl (by kernel_rfl) (by kernel_rfl) (by kernel_rfl) (fun _ _ _ h => h) (Or.inl ⟨by rfl, ?yn1_15_16⟩) hHeld ?rn1_15_16
      case yn1_15_16 => (intro wq hSw; clear hSw; go_simp; try with_reducible rfl)
      try simp only [List.getElem_toArray, List.getElem_cons_zero, List.getElem_cons_succ, Act.put, List.setIfInBounds_toArray, List.set_cons_zero, List.set_cons_succ]
      refine wpAnyH_take (i := 17) (v := ?vn1_16_17) rfl (by kernel_rfl) (by kernel_rfl) (by kernel_rfl) (fun _ _ _ h => h) (Or.inl ⟨by rfl, ?yn1_16_17⟩) hHeld ?rn1_16_17
      case yn1_16_17 => (intro wq hSw; clear hSw; go_simp; try with_reducible rfl)
      try simp only [List.getElem_toArray, List.getElem_cons_zero, List.getElem_cons_succ, Act.put, List.setIfInBounds_toArray, List.set_cons_zero, List.set_cons_succ]
      refine wpAnyH_take (i := 18) (v := ?vn1_17_18) rfl (by kernel_rfl) (by kernel_rfl) (by kernel_rfl) (fun _ _ _ h => h) (Or.inl ⟨by rfl, ?yn1_17_18⟩) hHeld ?rn1_17_18
      case yn1_17_18 => (intro wq hSw; clear hSw; go_simp; try with_reducible rfl)
      try simp only [List.getElem_toArray, List.getElem_cons_zero, List.getElem_cons_succ, Act.put, List.setIfInBounds_toArray, List.set_cons_zero, List.set_cons_succ]
      refine wpAnyH_take (i := 19) (v := ?vn1_18_19) rfl (by kernel_rfl) (by kernel_rfl) (by kernel_rfl) (fun _ _ _ h => h) (Or.inl ⟨by rfl, ?yn1_18_19⟩) hHeld ?rn1_18_19
      case yn1_18_19 => (intro wq hSw; have hq := hqt.out _ hSw; clear hSw; go_simp; try with_reducible rfl)
      try simp only [List.getElem_toArray, List.getElem_cons_zero, List.getElem_cons_succ, Act.put, List.setIfInBounds_toArray, List.set_cons_zero, List.set_cons_succ]
      refine wpAnyH_take (i := 20) (v := ?vn1_19_20) rfl (by kernel_rfl) (by kernel_rfl) (by kernel_rfl) (fun _ _ _ h => h) (Or.inl ⟨by rfl, ?yn1_19_20⟩) hHeld ?rn1_19_20
      case yn1_19_20 => (intro wq hSw; clear hSw; go_simp; try with_reducible rfl)
      try simp only [List.getElem_toArray, List.getElem_cons_zero, List.getElem_cons_succ, Act.put, List.setIfInBounds_toArray, List.set_cons_zero, List.set_cons_succ]
      refine wpAnyH_take (i := 21) (v := ?vn1_20_21) rfl (by kernel_rfl) (by kernel_rfl) (by kernel_rfl) (fun _ _ _ h => h) (Or.inl ⟨by rfl, ?yn1_20_21⟩) hHeld ?rn1_20_21
      case yn1_20_21 => (intro wq hSw; clear hSw; go_simp; try with_reducible rfl)
      try simp only [List.getElem_toArray, List.getElem_cons_zero, List.getElem_cons_succ, Act.put, List.setIfInBounds_toArray, List.set_cons_zero, List.set_cons_succ]
      refine wpAnyH_take (i := 22) (v := ?vn1_21_22) rfl (by kernel_rfl) (by kernel_rfl) (by kernel_rfl) (fun _ _ _ h => h) (Or.inl ⟨by rfl, ?yn1_21_22⟩) hHeld ?rn1_21_22
      case yn1_21_22 => (intro wq hSw; clear hSw; go_simp; try with_reducible rfl)
      try simp only [List.getElem_toArray, List.getElem_cons_zero, List.getElem_cons_succ, Act.put, List.setIfInBounds_toArray, List.set_cons_zero, List.set_cons_succ]
      refine wpAnyH_take (i := 23) (v := undef) rfl (by kernel_rfl) (by kernel_rfl) (by kernel_rfl) (fun _ _ _ h => h) (Or.inr ⟨by rfl, rfl⟩) hHeld ?_
      try simp only [List.getElem_toArray, List.getElem_cons_zero, List.getElem_cons_succ, Act.put, List.setIfInBounds_toArray, List.set_cons_zero, List.set_cons_succ]
      refine wpAnyH_take (i := 24) (v := undef) rfl (by kernel_rfl) (by kernel_rfl) (by kernel_rfl) (fun _ _ _ h => h) (Or.inr ⟨by rfl, rfl⟩) hHeld ?_
      try simp only [List.getElem_toArray, List.getElem_cons_zero, List.getElem_cons_succ, Act.put, List.setIfInBounds_toArray, List.set_cons_zero, List.set_cons_succ]
      refine wpAnyH_take (i := 25) (v := undef) rfl (by kernel_rfl) (by kernel_rfl) (by kernel_rfl) (fun _ _ _ h => h) (Or.inr ⟨by rfl, rfl⟩) hHeld ?_
      try simp only [List.getElem_toArray, List.getElem_cons_zero, List.getElem_cons_succ, Act.put, List.setIfInBounds_toArray, List.set_cons_zero, List.set_cons_succ]
      refine wpAnyH_take (i := 26) (v := undef) rfl (by kernel_rfl) (by kernel_rfl) (by kernel_rfl) (fun _ _ _ h => h) (Or.inr ⟨by rfl, rfl⟩) hHeld ?_
      try simp only [List.getElem_toArray, List.getElem_cons_zero, List.getElem_cons_succ, Act.put, List.setIfInBounds_toArray, List.set_cons_zero, List.set_cons_succ]
      refine wpAnyH_take (i := 27) (v := undef) rfl (by kernel_rfl) (by kernel_rfl) (by kernel_rfl) (fun _ _ _ h => h) (Or.inr ⟨by rfl, rfl⟩) hHeld ?_
      try simp only [List.getElem_toArray, List.getElem_cons_zero, List.getElem_cons_succ, Act.put, List.setIfInBounds_toArray, List.set_cons_zero, List.set_cons_succ]
      refine wpAnyH_take (i := 28) (v := undef) rfl (by kernel_rfl) (by kernel_rfl) (by kernel_rfl) (fun _ _ _ h => h) (Or.inr ⟨by rfl, rfl⟩) hHeld ?_
      try simp only [List.getElem_toArray, List.getElem_cons_zero, List.getElem_cons_succ, Act.put, List.setIfInBounds_toArray, List.set_cons_zero, List.set_cons_succ]
      refine wpAnyH_take (i := 29) (v := undef) rfl (by kernel_rfl) (by kernel_rfl) (by kernel_rfl) (fun _ _ _ h => h) (Or.inr ⟨by rfl, rfl⟩) hHeld ?_
      try simp only [List.getElem_toArray, List.getElem_cons_zero, List.getElem_cons_succ, Act.put, List.setIfInBounds_toArray, List.set_cons_zero, List.set_cons_succ]
      refine wpAnyH_take (i := 30) (v := undef) rfl (by kernel_rfl) (by kernel_rfl) (by kernel_rfl) (fun _ _ _ h => h) (Or.inr ⟨by rfl, rfl⟩) hHeld ?_
      try simp only [List.getElem_toArray, List.getElem_cons_zero, List.getElem_cons_succ, Act.put, List.setIfInBounds_toArray, List.set_cons_zero, List.set_cons_succ]
      refine wpAnyH_take (i := 31) (v := undef) rfl (by kernel_rfl) (by kernel_rfl) (by kernel_rfl) (fun _ _ _ h => h) (Or.inr ⟨by rfl, rfl⟩) hHeld ?_
      try simp only [List.getElem_toArray, List.getElem_cons_zero, List.getElem_cons_succ, Act.put, List.setIfInBounds_toArray, List.set_cons_zero, List.set_cons_succ]
      refine wpAnyH_take (i := 32) (v := undef) rfl (by kernel_rfl) (by kernel_rfl) (by kernel_rfl) (fun _ _ _ h => h) (Or.inr ⟨by rfl, rfl⟩) hHeld ?_
      try simp only [List.getElem_toArray, List.getElem_cons_zero, List.getElem_cons_succ, Act.put, List.setIfInBounds_toArray, List.set_cons_zero, List.set_cons_succ]
      refine wpAnyH_take (i := 33) (v := undef) rfl (by kernel_rfl) (by kernel_rfl) (by kernel_rfl) (fun _ _ _ h => h) (Or.inr ⟨by rfl, rfl⟩) hHeld ?_
      try simp only [List.getElem_toArray, List.getElem_cons_zero, List.getElem_cons_succ, Act.put, List.setIfInBounds_toArray, List.set_cons_zero, List.set_cons_succ]
      refine wpAnyH_take (i := 34) (v := ?vn1_22_34) rfl (by kernel_rfl) (by kernel_rfl) (by kernel_rfl) (fun _ _ _ h => h) (Or.inl ⟨by rfl, ?yn1_22_34⟩) hHeld ?rn1_22_34
      case yn1_22_34 => (intro wq hSw; clear hSw; go_simp; try with_reducible rfl)
      try simp only [List.getElem_toArray, List.getElem_cons_zero, List.getElem_cons_succ, Act.put, List.setIfInBounds_toArray, List.set_cons_zero, List.set_cons_succ]
      refine wpAnyH_take (i := 35) (v := ?vn1_23_35) rfl (by kernel_rfl) (by kernel_rfl) (by kernel_rfl) (fun _ _ _ h => h) (Or.inl ⟨by rfl, ?yn1_23_35⟩) hHeld ?rn1_23_35
      case yn1_23_35 => (intro wq hSw; clear hSw; go_simp; try with_reducible rfl)
      try simp only [List.getElem_toArray, List.getElem_cons_zero, List.getElem_cons_succ, Act.put, List.setIfInBounds_toArray, List.set_cons_zero, List.set_cons_succ]
      refine wpAnyH_take (i := 36) (v := undef) rfl (by kernel_rfl) (by kernel_rfl) (by kernel_rfl) (fun _ _ _ h => h) (Or.inr ⟨by rfl, rfl⟩) hHeld ?_
      try simp only [List.getElem_toArray, List.getElem_cons_zero, List.getElem_cons_succ, Act.put, List.setIfInBounds_toArray, List.set_cons_zero, List.set_cons_succ]
      refine wpAnyH_take (i := 37) (v := undef) rfl (by kernel_rfl) (by kernel_rfl) (by kernel_rfl) (fun _ _ _ h => h) (Or.inr ⟨by rfl, rfl⟩) hHeld ?_
      try simp only [List.getElem_toArray, List.getElem_cons_zero, List.getElem_cons_succ, Act.put, List.setIfInBounds_toArray, List.set_cons_zero, List.set_cons_succ]
      refine wpAnyH_take (i := 38) (v := undef) rfl (by kernel_rfl) (by kernel_rfl) (by kernel_rfl) (fun _ _ _ h => h) (Or.inr ⟨by rfl, rfl⟩) hHeld ?_
      try simp only [List.getElem_toArray, List.getElem_cons_zero, List.getElem_cons_succ, Act.put, List.setIfInBounds_toArray, List.set_cons_zero, List.set_cons_succ]
      refine wpAnyH_take (i := 39) (v := undef) rfl (by kernel_rfl) (by kernel_rfl) (by kernel_rfl) (fun _ _ _ h => h) (Or.inr ⟨by rfl, rfl⟩) hHeld ?_
      try simp only [List.getElem_toArray, List.getElem_cons_zero, List.getElem_cons_succ, Act.put, List.setIfInBounds_toArray, List.set_cons_zero, List.set_cons_succ]
      refine wpAnyH_take (i := 40) (v := undef) rfl (by kernel_rfl) (by kernel_rfl) (by kernel_rfl) (fun _ _ _ h => h) (Or.inr ⟨by rfl, rfl⟩) hHeld ?_
      try simp only [List.getElem_toArray, List.getElem_cons_zero, List.getElem_cons_succ, Act.put, List.setIfInBounds_toArray, List.set_cons_zero, List.set_cons_succ]
      refine wpAnyH_take (i := 41) (v := undef) rfl (by kernel_rfl) (by kernel_rfl) (by kernel_rfl) (fun _ _ _ h => h) (Or.inr ⟨by rfl, rfl⟩) hHeld ?_
      try simp only [List.getElem_toArray, List.getElem_cons_zero, List.getElem_cons_succ, Act.put, List.setIfInBounds_toArray, List.set_cons_zero, List.set_cons_succ]
      refine wpAnyH_take (i := 42) (v := undef) rfl (by kernel_rfl) (by kernel_rfl) (by kernel_rfl) (fun _ _ _ h => h) (Or.inr ⟨by rfl, rfl⟩) hHeld ?_
      try simp only [List.getElem_toArray, List.getElem_cons_zero, List.getElem_cons_succ, Act.put, List.setIfInBounds_toArray, List.set_cons_zero, List.set_cons_succ]
      refine wpAnyH_take (i := 43) (v := undef) rfl (by kernel_rfl) (by kernel_rfl) (by kernel_rfl) (fun _ _ _ h => h) (Or.inr ⟨by rfl, rfl⟩) hHeld ?_
      try simp only [List.getElem_toArray, List.getElem_cons_zero, List.getElem_cons_succ, Act.put, List.setIfInBounds_toArray, List.set_cons_zero, List.set_cons_succ]
      refine wpAnyH_take (i := 44) (v := undef) rfl (by kernel_rfl) (by kernel_rfl) (by kernel_rfl) (fun _ _ _ h => h) (Or.inr ⟨by rfl, rfl⟩) hHeld ?_
      try simp only [List.getElem_toArray, List.getElem_cons_zero, List.getElem_cons_succ, Act.put, List.setIfInBounds_toArray, List.set_cons_zero, List.set_cons_succ]
      refine wpAnyH_take (i := 45) (v := ?vn1_24_45) rfl (by kernel_rfl) (by kernel_rfl) (by kernel_rfl) (fun _ _ _ h => h) (Or.inl ⟨by rfl, ?yn1_24_45⟩) hHeld ?rn1_24_45
      case yn1_24_45 => (intro wq hSw; clear hSw; go_simp; try with_reducible rfl)
      try simp only [List.getElem_toArray, List.getElem_cons_zero, List.getElem_cons_succ, Act.put, List.setIfInBounds_toArray, List.set_cons_zero, List.set_cons_succ]
      refine wpAnyH_take (i := 46) (v := ?vn1_25_46) rfl (by kernel_rfl) (by kernel_rfl) (by kernel_rfl) (fun _ _ _ h => h) (Or.inl ⟨by rfl, ?yn1_25_46⟩) hHeld ?rn1_25_46
      case yn1_25_46 => (intro wq hSw; clear hSw; go_simp; try with_reducible rfl)
      try simp only [List.getElem_toArray, List.getElem_cons_zero, List.getElem_cons_succ, Act.put, List.setIfInBounds_toArray, List.set_cons_zero, List.set_cons_succ]
      refine wpAnyH_done (by kernel_rfl) ?_ _
      clear hHeld
      go_wp2_with fail
      go_ret
      exact ⟨by rw [hR.out]; simp [hy0.out, hy1.out], (drewN_below w 1).trans (hb1.trans (hb2.mono hb1.size))⟩
    case pos =>
      have ht1 : ((tp : Int) + 1 == (tq : Int) + 1) = true := by rw [hx1]; exact beq_self_eq_true _
      have hy1 := lay hx1; clear hx1
      by_cases hx2 : cp = cq
      case neg =>
        have hf : (cp.toList == cq.toList) = false := txt_no hx2
        have hy2 := lay hx2; clear hx2
        refine wp_region_held_drew (S := fun w' : World => TwoAt p q tp tq pg bg qg cg w') (by kernel_rfl) hS1.out (fun hHeld => ?_)
        refine wpAnyH_take (i := 0) (v := ?vn2_1_0) rfl (by kernel_rfl) (by kernel_rfl) (by kernel_rfl) (fun _ _ _ h => h) (Or.inl ⟨by rfl, ?yn2_1_0⟩) hHeld ?rn2_1_0
        case yn2_1_0 => (intro wq hSw; clear hSw; go_simp; try with_reducible rfl)
        try simp only [List.getElem_toArray, List.getElem_cons_zero, List.getElem_cons_succ, Act.put, List.setIfInBounds_toArray, List.set_cons_zero, List.set_cons_succ]
        refine wpAnyH_take (i := 1) (v := ?vn2_2_1) rfl (by kernel_rfl) (by kernel_rfl) (by kernel_rfl) (fun _ _ _ h => h) (Or.inl ⟨by rfl, ?yn2_2_1⟩) hHeld ?rn2_2_1
        case yn2_2_1 => (intro wq hSw; clear hSw; go_simp; try with_reducible rfl)
        try simp only [List.getElem_toArray, List.getElem_cons_zero, List.getElem_cons_succ, Act.put, List.setIfInBounds_toArray, List.set_cons_zero, List.set_cons_succ]
        refine wpAnyH_take (i := 2) (v := ?vn2_3_2) rfl (by kernel_rfl) (by kernel_rfl) (by kernel_rfl) (fun _ _ _ h => h) (Or.inl ⟨by rfl, ?yn2_3_2⟩) hHeld ?rn2_3_2
        case yn2_3_2 => (intro wq hSw; clear hSw; go_simp; try with_reducible rfl)
        try simp only [List.getElem_toArray, List.getElem_cons_zero, List.getElem_cons_succ, Act.put, List.setIfInBounds_toArray, List.set_cons_zero, List.set_cons_succ]
        refine wpAnyH_take (i := 3) (v := ?vn2_4_3) rfl (by kernel_rfl) (by kernel_rfl) (by kernel_rfl) (fun _ _ _ h => h) (Or.inl ⟨by rfl, ?yn2_4_3⟩) hHeld ?rn2_4_3
        case yn2_4_3 => (intro wq hSw; have hq := hpc.out _ hSw; clear hSw; go_simp; try with_reducible rfl)
        try simp only [List.getElem_toArray, List.getElem_cons_zero, List.getElem_cons_succ, Act.put, List.setIfInBounds_toArray, List.set_cons_zero, List.set_cons_succ]
        refine wpAnyH_take (i := 5) (v := ?vn2_5_5) rfl (by kernel_rfl) (by kernel_rfl) (by kernel_rfl) (fun _ _ _ h => h) (Or.inl ⟨by rfl, ?yn2_5_5⟩) hHeld ?rn2_5_5
        case yn2_5_5 => (intro wq hSw; clear hSw; go_simp; try with_reducible rfl)
        try simp only [List.getElem_toArray, List.getElem_cons_zero, List.getElem_cons_succ, Act.put, List.setIfInBounds_toArray, List.set_cons_zero, List.set_cons_succ]
        refine wpAnyH_take (i := 6) (v := ?vn2_6_6) rfl (by kernel_rfl) (by kernel_rfl) (by kernel_rfl) (fun _ _ _ h => h) (Or.inl ⟨by rfl, ?yn2_6_6⟩) hHeld ?rn2_6_6
        case yn2_6_6 => (intro wq hSw; clear hSw; go_simp; try with_reducible rfl)
        try simp only [List.getElem_toArray, List.getElem_cons_zero, List.getElem_cons_succ, Act.put, List.setIfInBounds_toArray, List.set_cons_zero, List.set_cons_succ]
        refine wpAnyH_take (i := 7) (v := ?vn2_7_7) rfl (by kernel_rfl) (by kernel_rfl) (by kernel_rfl) (fun _ _ _ h => h) (Or.inl ⟨by rfl, ?yn2_7_7⟩) hHeld ?rn2_7_7
        case yn2_7_7 => (intro wq hSw; clear hSw; go_simp; try with_reducible rfl)
        try simp only [List.getElem_toArray, List.getElem_cons_zero, List.getElem_cons_succ, Act.put, List.setIfInBounds_toArray, List.set_cons_zero, List.set_cons_succ]
        refine wpAnyH_take (i := 8) (v := ?vn2_8_8) rfl (by kernel_rfl) (by kernel_rfl) (by kernel_rfl) (fun _ _ _ h => h) (Or.inl ⟨by rfl, ?yn2_8_8⟩) hHeld ?rn2_8_8
        case yn2_8_8 => (intro wq hSw; have hq := hqc.out _ hSw; clear hSw; go_simp; try with_reducible rfl)
        try simp only [List.getElem_toArray, List.getElem_cons_zero, List.getElem_cons_succ, Act.put, List.setIfInBounds_toArray, List.set_cons_zero, List.set_cons_succ]
        refine wpAnyH_ready (rs := [4]) (by kernel_rfl) (by simp) ?_
        refine AllReadyH.cons rfl (fun K hK => ?_) AllReadyH.nil
        try simp only [List.getElem_toArray, List.getElem_cons_zero, List.getElem_cons_succ, Act.put, List.setIfInBounds_toArray, List.set_cons_zero, List.set_cons_succ]
        try rw [if_pos (by rfl)]
        go_simp
        refine (hsp.out _ hHeld).mono ?_
        rintro e1 w1 ⟨rfl, hb1⟩
        go_wp2_with fail
        refine hK.out _ _ (hHeld.below hb1) (fun hHeld => ?_)
        clear hK K
        try simp only [List.getElem_toArray, List.getElem_cons_zero, List.getElem_cons_succ, Act.put, List.setIfInBounds_toArray, List.set_cons_zero, List.set_cons_succ]
        refine wpAnyH_ready (rs := [9]) (by kernel_rfl) (by simp) ?_
        refine AllReadyH.cons rfl (fun K hK => ?_) AllReadyH.nil
        try simp only [List.getElem_toArray, List.getElem_cons_zero, List.getElem_cons_succ, Act.put, List.setIfInBounds_toArray, List.set_cons_zero, List.set_cons_succ]
        try rw [if_pos (by rfl)]
        go_simp
        refine (hsq.out _ hHeld).mono ?_
        rintro e2 w2 ⟨rfl, hb2⟩
        go_wp2_with fail
        refine hK.out _ _ (hHeld.below hb2) (fun hHeld => ?_)
        clear hK K
        try simp only [List.getElem_toArray, List.getElem_cons_zero, List.getElem_cons_succ, Act.put, List.setIfInBounds_toArray, List.set_cons_zero, List.set_cons_succ]
        refine wpAnyH_take (i := 10) (v := ?vn2_9_10) rfl (by kernel_rfl) (by kernel_rfl) (by kernel_rfl) (fun _ _ _ h => h) (Or.inl ⟨by rfl, ?yn2_9_10⟩) hHeld ?rn2_9_10
        case yn2_9_10 => (intro wq hSw; clear hSw; go_simp; try with_reducible rfl)
        try simp only [List.getElem_toArray, List.getElem_cons_zero, List.getElem_cons_succ, Act.put, List.setIfInBounds_toArray, List.set_cons_zero, List.set_cons_succ]
        refine wpAnyH_take (i := 11) (v := ?vn2_10_11) rfl (by kernel_rfl) (by kernel_rfl) (by kernel_rfl) (fun _ _ _ h => h) (Or.inl ⟨by rfl, ?yn2_10_11⟩) hHeld ?rn2_10_11
        case yn2_10_11 => (intro wq hSw; clear hSw; go_simp; try with_reducible rfl)
        try simp only [List.getElem_toArray, List.getElem_cons_zero, List.getElem_cons_succ, Act.put, List.setIfInBounds_toArray, List.set_cons_zero, List.set_cons_succ]
        refine wpAnyH_take (i := 12) (v := ?vn2_11_12) rfl (by kernel_rfl) (by kernel_rfl) (by kernel_rfl) (fun _ _ _ h => h) (Or.inl ⟨by rfl, ?yn2_11_12⟩) hHeld ?rn2_11_12
        case yn2_11_12 => (intro wq hSw; clear hSw; go_simp; try with_reducible rfl)
        try simp only [List.getElem_toArray, List.getElem_cons_zero, List.getElem_cons_succ, Act.put, List.setIfInBounds_toArray, List.set_cons_zero, List.set_cons_succ]
        refine wpAnyH_take (i := 13) (v := ?vn2_12_13) rfl (by kernel_rfl) (by kernel_rfl) (by kernel_rfl) (fun _ _ _ h => h) (Or.inl ⟨by rfl, ?yn2_12_13⟩) hHeld ?rn2_12_13
        case yn2_12_13 => (intro wq hSw; clear hSw; go_simp; try with_reducible rfl)
        try simp only [List.getElem_toArray, List.getElem_cons_zero, List.getElem_cons_succ, Act.put, List.setIfInBounds_toArray, List.set_cons_zero, List.set_cons_succ]
        refine wpAnyH_take (i := 14) (v := ?vn2_13_14) rfl (by kernel_rfl) (by kernel_rfl) (by kernel_rfl) (fun _ _ _ h => h) (Or.inl ⟨by rfl, ?yn2_13_14⟩) hHeld ?rn2_13_14
        case yn2_13_14 => (intro wq hSw; clear hSw; go_simp; try with_reducible rfl)
        try simp only [List.getElem_toArray, List.getElem_cons_zero, List.getElem_cons_succ, Act.put, List.setIfInBounds_toArray, List.set_cons_zero, List.set_cons_succ]
        refine wpAnyH_take (i := 15) (v := ?vn2_14_15) rfl (by kernel_rfl) (by kernel_rfl) (by kernel_rfl) (fun _ _ _ h => h) (Or.inl ⟨by rfl, ?yn2_14_15⟩) hHeld ?rn2_14_15
        case yn2_14_15 => (intro wq hSw; have hq := hpt.out _ hSw; clear hSw; go_simp; try with_reducible rfl)
        try simp only [List.getElem_toArray, List.getElem_cons_zero, List.getElem_cons_succ, Act.put, List.setIfInBounds_toArray, List.set_cons_zero, List.set_cons_succ]
        refine wpAnyH_take (i := 16) (v := ?vn2_15_16) rfl (by kernel_rfl) (by kernel_rfl) (by kernel_rfl) (fun _ _ _ h => h) (Or.inl ⟨by rfl, ?yn2_15_16⟩) hHeld ?rn2_15_16
        case yn2_15_16 => (intro wq hSw; clear hSw; go_simp; try with_reducible rfl)
        try simp only [List.getElem_toArray, List.getElem_cons_zero, List.getElem_cons_succ, Act.put, List.setIfInBounds_toArray, List.set_cons_zero, List.set_cons_succ]
        refine wpAnyH_take (i := 17) (v := ?vn2_16_17) rfl (by kernel_rfl) (by kernel_rfl) (by kernel_rfl) (fun _ _ _ h => h) (Or.inl ⟨by rfl, ?yn2_16_17⟩) hHeld ?rn2_16_17
        case yn2_16_17 => (intro wq hSw; clear hSw; go_simp; try with_reducible rfl)
        try simp only [List.getElem_toArray, List.getElem_cons_zero, List.getElem_cons_succ, Act.put, List.setIfInBounds_toArray, List.set_cons_zero, List.set_cons_succ]
        refine wpAnyH_take (i := 18) (v := ?vn2_17_18) rfl (by kernel_rfl) (by kernel_rfl) (by kernel_rfl) (fun _ _ _ h => h) (Or.inl ⟨by rfl, ?yn2_17_18⟩) hHeld ?rn2_17_18
        case yn2_17_18 => (intro wq hSw; clear hSw; go_simp; try with_reducible rfl)
        try simp only [List.getElem_toArray, List.getElem_cons_zero, List.getElem_cons_succ, Act.put, List.setIfInBounds_toArray, List.set_cons_zero, List.set_cons_succ]
        refine wpAnyH_take (i := 19) (v := ?vn2_18_19) rfl (by kernel_rfl) (by kernel_rfl) (by kernel_rfl) (fun _ _ _ h => h) (Or.inl ⟨by rfl, ?yn2_18_19⟩) hHeld ?rn2_18_19
        case yn2_18_19 => (intro wq hSw; have hq := hqt.out _ hSw; clear hSw; go_simp; try with_reducible rfl)
        try simp only [List.getElem_toArray, List.getElem_cons_zero, List.getElem_cons_succ, Act.put, List.setIfInBounds_toArray, List.set_cons_zero, List.set_cons_succ]
        refine wpAnyH_take (i := 20) (v := ?vn2_19_20) rfl (by kernel_rfl) (by kernel_rfl) (by kernel_rfl) (fun _ _ _ h => h) (Or.inl ⟨by rfl, ?yn2_19_20⟩) hHeld ?rn2_19_20
        case yn2_19_20 => (intro wq hSw; clear hSw; go_simp; try with_reducible rfl)
        try simp only [List.getElem_toArray, List.getElem_cons_zero, List.getElem_cons_succ, Act.put, List.setIfInBounds_toArray, List.set_cons_zero, List.set_cons_succ]
        refine wpAnyH_take (i := 21) (v := ?vn2_20_21) rfl (by kernel_rfl) (by kernel_rfl) (by kernel_rfl) (fun _ _ _ h => h) (Or.inl ⟨by rfl, ?yn2_20_21⟩) hHeld ?rn2_20_21
        case yn2_20_21 => (intro wq hSw; clear hSw; go_simp; try with_reducible rfl)
        try simp only [List.getElem_toArray, List.getElem_cons_zero, List.getElem_cons_succ, Act.put, List.setIfInBounds_toArray, List.set_cons_zero, List.set_cons_succ]
        refine wpAnyH_take (i := 22) (v := ?vn2_21_22) rfl (by kernel_rfl) (by kernel_rfl) (by kernel_rfl) (fun _ _ _ h => h) (Or.inl ⟨by rfl, ?yn2_21_22⟩) hHeld ?rn2_21_22
        case yn2_21_22 => (intro wq hSw; clear hSw; go_simp; try with_reducible rfl)
        try simp only [List.getElem_toArray, List.getElem_cons_zero, List.getElem_cons_succ, Act.put, List.setIfInBounds_toArray, List.set_cons_zero, List.set_cons_succ]
        refine wpAnyH_take (i := 23) (v := ?vn2_22_23) rfl (by kernel_rfl) (by kernel_rfl) (by kernel_rfl) (fun _ _ _ h => h) (Or.inl ⟨by rfl, ?yn2_22_23⟩) hHeld ?rn2_22_23
        case yn2_22_23 => (intro wq hSw; clear hSw; go_simp; try with_reducible rfl)
        try simp only [List.getElem_toArray, List.getElem_cons_zero, List.getElem_cons_succ, Act.put, List.setIfInBounds_toArray, List.set_cons_zero, List.set_cons_succ]
        refine wpAnyH_take (i := 24) (v := ?vn2_23_24) rfl (by kernel_rfl) (by kernel_rfl) (by kernel_rfl) (fun _ _ _ h => h) (Or.inl ⟨by rfl, ?yn2_23_24⟩) hHeld ?rn2_23_24
        case yn2_23_24 => (intro wq hSw; clear hSw; go_simp; try with_reducible rfl)
        try simp only [List.getElem_toArray, List.getElem_cons_zero, List.getElem_cons_succ, Act.put, List.setIfInBounds_toArray, List.set_cons_zero, List.set_cons_succ]
        refine wpAnyH_take (i := 25) (v := ?vn2_24_25) rfl (by kernel_rfl) (by kernel_rfl) (by kernel_rfl) (fun _ _ _ h => h) (Or.inl ⟨by rfl, ?yn2_24_25⟩) hHeld ?rn2_24_25
        case yn2_24_25 => (intro wq hSw; clear hSw; go_simp; try with_reducible rfl)
        try simp only [List.getElem_toArray, List.getElem_cons_zero, List.getElem_cons_succ, Act.put, List.setIfInBounds_toArray, List.set_cons_zero, List.set_cons_succ]
        refine wpAnyH_take (i := 26) (v := ?vn2_25_26) rfl (by kernel_rfl) (by kernel_rfl) (by kernel_rfl) (fun _ _ _ h => h) (Or.inl ⟨by rfl, ?yn2_25_26⟩) hHeld ?rn2_25_26
        case yn2_25_26 => (intro wq hSw; have hq := hps.out _ hSw; clear hSw; go_simp; try with_reducible rfl)
        try simp only [List.getElem_toArray, List.getElem_cons_zero, List.getElem_cons_succ, Act.put, List.setIfInBounds_toArray, List.set_cons_zero, List.set_cons_succ]
        refine wpAnyH_take (i := 28) (v := ?vn2_26_28) rfl (by kernel_rfl) (by kernel_rfl) (by kernel_rfl) (fun _ _ _ h => h) (Or.inl ⟨by rfl, ?yn2_26_28⟩) hHeld ?rn2_26_28
        case yn2_26_28 => (intro wq hSw; clear hSw; go_simp; try with_reducible rfl)
        try simp only [List.getElem_toArray, List.getElem_cons_zero, List.getElem_cons_succ, Act.put, List.setIfInBounds_toArray, List.set_cons_zero, List.set_cons_succ]
        refine wpAnyH_take (i := 29) (v := ?vn2_27_29) rfl (by kernel_rfl) (by kernel_rfl) (by kernel_rfl) (fun _ _ _ h => h) (Or.inl ⟨by rfl, ?yn2_27_29⟩) hHeld ?rn2_27_29
        case yn2_27_29 => (intro wq hSw; clear hSw; go_simp; try with_reducible rfl)
        try simp only [List.getElem_toArray, List.getElem_cons_zero, List.getElem_cons_succ, Act.put, List.setIfInBounds_toArray, List.set_cons_zero, List.set_cons_succ]
        refine wpAnyH_take (i := 30) (v := ?vn2_28_30) rfl (by kernel_rfl) (by kernel_rfl) (by kernel_rfl) (fun _ _ _ h => h) (Or.inl ⟨by rfl, ?yn2_28_30⟩) hHeld ?rn2_28_30
        case yn2_28_30 => (intro wq hSw; clear hSw; go_simp; try with_reducible rfl)
        try simp only [List.getElem_toArray, List.getElem_cons_zero, List.getElem_cons_succ, Act.put, List.setIfInBounds_toArray, List.set_cons_zero, List.set_cons_succ]
        refine wpAnyH_take (i := 31) (v := ?vn2_29_31) rfl (by kernel_rfl) (by kernel_rfl) (by kernel_rfl) (fun _ _ _ h => h) (Or.inl ⟨by rfl, ?yn2_29_31⟩) hHeld ?rn2_29_31
        case yn2_29_31 => (intro wq hSw; have hq := hqs.out _ hSw; clear hSw; go_simp; try with_reducible rfl)
        try simp only [List.getElem_toArray, List.getElem_cons_zero, List.getElem_cons_succ, Act.put, List.setIfInBounds_toArray, List.set_cons_zero, List.set_cons_succ]
        refine wpAnyH_ready (rs := [27]) (by kernel_rfl) (by simp) ?_
        refine AllReadyH.cons rfl (fun K hK => ?_) AllReadyH.nil
        try simp only [List.getElem_toArray, List.getElem_cons_zero, List.getElem_cons_succ, Act.put, List.setIfInBounds_toArray, List.set_cons_zero, List.set_cons_succ]
        try rw [if_pos (by rfl)]
        go_simp
        refine (sm_cas _ _).mono ?_
        rintro e3 w3 ⟨rfl, rfl⟩
        go_wp2_with fail
        refine hK.out _ _ (hHeld) (fun hHeld => ?_)
        clear hK K
        try simp only [List.getElem_toArray, List.getElem_cons_zero, List.getElem_cons_succ, Act.put, List.setIfInBounds_toArray, List.set_cons_zero, List.set_cons_succ]
        refine wpAnyH_ready (rs := [32]) (by kernel_rfl) (by simp) ?_
        refine AllReadyH.cons rfl (fun K hK => ?_) AllReadyH.nil
        try simp only [List.getElem_toArray, List.getElem_cons_zero, List.getElem_cons_succ, Act.put, List.setIfInBounds_toArray, List.set_cons_zero, List.set_cons_succ]
        try rw [if_pos (by rfl)]
        go_simp
        refine (sm_cas _ _).mono ?_
        rintro e4 w4 ⟨rfl, rfl⟩
        go_wp2_with fail
        refine hK.out _ _ (hHeld) (fun hHeld => ?_)
        clear hK K
        try simp only [List.getElem_toArray, List.getElem_cons_zero, List.getElem_cons_succ, Act.put, List.setIfInBounds_toArray, List.set_cons_zero, List.set_cons_succ]
        refine wpAnyH_take (i := 33) (v := ?vn2_30_33) rfl (by kernel_rfl) (by kernel_rfl) (by kernel_rfl) (fun _ _ _ h => h) (Or.inl ⟨by rfl, ?yn2_30_33⟩) hHeld ?rn2_30_33
        case yn2_30_33 => (intro wq hSw; clear hSw; go_simp; try with_reducible rfl)
        try simp only [List.getElem_toArray, List.getElem_cons_zero, List.getElem_cons_succ, Act.put, List.setIfInBounds_toArray, List.set_cons_zero, List.set_cons_succ]
        refine wpAnyH_take (i := 34) (v := ?vn2_31_34) rfl (by kernel_rfl) (by kernel_rfl) (by kernel_rfl) (fun _ _ _ h => h) (Or.inl ⟨by rfl, ?yn2_31_34⟩) hHeld ?rn2_31_34
        case yn2_31_34 => (intro wq hSw; clear hSw; go_simp; try with_reducible rfl)
        try simp only [List.getElem_toArray, List.getElem_cons_zero, List.getElem_cons_succ, Act.put, List.setIfInBounds_toArray, List.set_cons_zero, List.set_cons_succ]
        refine wpAnyH_take (i := 35) (v := ?vn2_32_35) rfl (by kernel_rfl) (by kernel_rfl) (by kernel_rfl) (fun _ _ _ h => h) (Or.inl ⟨by rfl, ?yn2_32_35⟩) hHeld ?rn2_32_35
        case yn2_32_35 => (intro wq hSw; clear hSw; go_simp; try with_reducible rfl)
        try simp only [List.getElem_toArray, List.getElem_cons_zero, List.getElem_cons_succ, Act.put, List.setIfInBounds_toArray, List.set_cons_zero, List.set_cons_succ]
        refine wpAnyH_take (i := 36) (v := undef) rfl (by kernel_rfl) (by kernel_rfl) (by kernel_rfl) (fun _ _ _ h => h) (Or.inr ⟨by rfl, rfl⟩) hHeld ?_
        try simp only [List.getElem_toArray, List.getElem_cons_zero, List.getElem_cons_succ, Act.put, List.setIfInBounds_toArray, List.set_cons_zero, List.set_cons_succ]
        refine wpAnyH_take (i := 37) (v := undef) rfl (by kernel_rfl) (by kernel_rfl) (by kernel_rfl) (fun _ _ _ h => h) (Or.inr ⟨by rfl, rfl⟩) hHeld ?_
        try simp only [List.getElem_toArray, List.getElem_cons_zero, List.getElem_cons_succ, Act.put, List.setIfInBounds_toArray, List.set_cons_zero, List.set_cons_succ]
        refine wpAnyH_take (i := 38) (v := undef) rfl (by kernel_rfl) (by kernel_rfl) (by kernel_rfl) (fun _ _ _ h => h) (Or.inr ⟨by rfl, rfl⟩) hHeld ?_
        try simp only [List.getElem_toArray, List.getElem_cons_zero, List.getElem_cons_succ, Act.put, List.setIfInBounds_toArray, List.set_cons_zero, List.set_cons_succ]
        refine wpAnyH_take (i := 39) (v := undef) rfl (by kernel_rfl) (by kernel_rfl) (by kernel_rfl) (fun _ _ _ h => h) (Or.inr ⟨by rfl, rfl⟩) hHeld ?_
        try simp only [List.getElem_toArray, List.getElem_cons_zero, List.getElem_cons_succ, Act.put, List.setIfInBounds_toArray, List.set_cons_zero, List.set_cons_succ]
        refine wpAnyH_take (i := 40) (v := undef) rfl (by kernel_rfl) (by kernel_rfl) (by kernel_rfl) (fun _ _ _ h => h) (Or.inr ⟨by rfl, rfl⟩) hHeld ?_
        try simp only [List.getElem_toArray, List.getElem_cons_zero, List.getElem_cons_succ, Act.put, List.setIfInBounds_toArray, List.set_cons_zero, List.set_cons_succ]
        refine wpAnyH_take (i := 41) (v := undef) rfl (by kernel_rfl) (by kernel_rfl) (by kernel_rfl) (fun _ _ _ h => h) (Or.inr ⟨by rfl, rfl⟩) hHeld ?_
        try simp only [List.getElem_toArray, List.getElem_cons_zero, List.getElem_cons_succ, Act.put, List.setIfInBounds_toArray, List.set_cons_zero, List.set_cons_succ]
        refine wpAnyH_take (i := 42) (v := undef) rfl (by kernel_rfl) (by kernel_rfl) (by kernel_rfl) (fun _ _ _ h => h) (Or.inr ⟨by rfl, rfl⟩) hHeld ?_
        try simp only [List.getElem_toArray, List.getElem_cons_zero, List.getElem_cons_succ, Act.put, List.setIfInBounds_toArray, List.set_cons_zero, List.set_cons_succ]
        refine wpAnyH_take (i := 43) (v := undef) rfl (by kernel_rfl) (by kernel_rfl) (by kernel_rfl) (fun _ _ _ h => h) (Or.inr ⟨by rfl, rfl⟩) hHeld ?_
        try simp only [List.getElem_toArray, List.getElem_cons_zero, List.getElem_cons_succ, Act.put, List.setIfInBounds_toArray, List.set_cons_zero, List.set_cons_succ]
        refine wpAnyH_take (i := 44) (v := undef) rfl (by kernel_rfl) (by kernel_rfl) (by kernel_rfl) (fun _ _ _ h => h) (Or.inr ⟨by rfl, rfl⟩) hHeld ?_
        try simp only [List.getElem_toArray, List.getElem_cons_zero, List.getElem_cons_succ, Act.put, List.setIfInBounds_toArray, List.set_cons_zero, List.set_cons_succ]
        refine wpAnyH_take (i := 45) (v := ?vn2_33_45) rfl (by kernel_rfl) (by kernel_rfl) (by kernel_rfl) (fun _ _ _ h => h) (Or.inl ⟨by rfl, ?yn2_33_45⟩) hHeld ?rn2_33_45
        case yn2_33_45 => (intro wq hSw; clear hSw; go_simp; try with_reducible rfl)
        try simp only [List.getElem_toArray, List.getElem_cons_zero, List.getElem_cons_succ, Act.put, List.setIfInBounds_toArray, List.set_cons_zero, List.set_cons_succ]
        refine wpAnyH_take (i := 46) (v := ?vn2_34_46) rfl (by kernel_rfl) (by kernel_rfl) (by kernel_rfl) (fun _ _ _ h => h) (Or.inl ⟨by rfl, ?yn2_34_46⟩) hHeld ?rn2_34_46
        case yn2_34_46 => (intro wq hSw; clear hSw; go_simp; try with_reducible rfl)
        try simp only [List.getElem_toArray, List.getElem_cons_zero, List.getElem_cons_succ, Act.put, List.setIfInBounds_toArray, List.set_cons_zero, List.set_cons_succ]
        refine wpAnyH_done (by kernel_rfl) ?_ _
        clear hHeld
        go_wp2_with fail
        go_ret
        exact ⟨by rw [hR.out]; simp [hy0.out, hy1.out, hy2.out], (drewN_below w 1).trans (hb1.trans (hb2.mono hb1.size))⟩
      case pos =>
        have ht2 : (cp.toList == cq.toList) = true := by rw [hx2]; exact beq_self_eq_true _
        have hy2 := lay hx2; clear hx2
        by_cases hx3 : ep = eq
        case neg =>
          have hf : (ep == eq) = false := by simpa using hx3
          have hy3 := lay hx3; clear hx3
          refine wp_region_held_drew (S := fun w' : World => TwoAt p q tp tq pg bg qg cg w') (by kernel_rfl) hS1.out (fun hHeld => ?_)
          refine wpAnyH_take (i := 0) (v := ?vn3_1_0) rfl (by kernel_rfl) (by kernel_rfl) (by kernel_rfl) (fun _ _ _ h => h) (Or.inl ⟨by rfl, ?yn3_1_0⟩) hHeld ?rn3_1_0
          case yn3_1_0 => (intro wq hSw; clear hSw; go_simp; try with_reducible rfl)
          try simp only [List.getElem_toArray, List.getElem_cons_zero, List.getElem_cons_succ, Act.put, List.setIfInBounds_toArray, List.set_cons_zero, List.set_cons_succ]
          refine wpAnyH_take (i := 1) (v := ?vn3_2_1) rfl (by kernel_rfl) (by kernel_rfl) (by kernel_rfl) (fun _ _ _ h => h) (Or.inl ⟨by rfl, ?yn3_2_1⟩) hHeld ?rn3_2_1
          case yn3_2_1 => (intro wq hSw; clear hSw; go_simp; try with_reducible rfl)
          try simp only [List.getElem_toArray, List.getElem_cons_zero, List.getElem_cons_succ, Act.put, List.setIfInBounds_toArray, List.set_cons_zero, List.set_cons_succ]
          refine wpAnyH_take (i := 2) (v := ?vn3_3_2) rfl (by kernel_rfl) (by kernel_rfl) (by kernel_rfl) (fun _ _ _ h => h) (Or.inl ⟨by rfl, ?yn3_3_2⟩) hHeld ?rn3_3_2
          case yn3_3_2 => (intro wq hSw; clear hSw; go_simp; try with_reducible rfl)
          try simp only [List.getElem_toArray, List.getElem_cons_zero, List.getElem_cons_succ, Act.put, List.setIfInBounds_toArray, List.set_cons_zero, List.set_cons_succ]
          refine wpAnyH_take (i := 3) (v := ?vn3_4_3) rfl (by kernel_rfl) (by kernel_rfl) (by kernel_rfl) (fun _ _ _ h => h) (Or.inl ⟨by rfl, ?yn3_4_3⟩) hHeld ?rn3_4_3
          case yn3_4_3 => (intro wq hSw; have hq := hpc.out _ hSw; clear hSw; go_simp; try with_reducible rfl)
          try simp only [List.getElem_toArray, List.getElem_cons_zero, List.getElem_cons_succ, Act.put, List.setIfInBounds_toArray, List.set_cons_zero, List.set_cons_succ]
          refine wpAnyH_take (i := 5) (v := ?vn3_5_5) rfl (by kernel_rfl) (by kernel_rfl) (by kernel_rfl) (fun _ _ _ h => h) (Or.inl ⟨by rfl, ?yn3_5_5⟩) hHeld ?rn3_5_5
          case yn3_5_5 => (intro wq hSw; clear hSw; go_simp; try with_reducible rfl)
          try simp only [List.getElem_toArray, List.getElem_cons_zero, List.getElem_cons_succ, Act.put, List.setIfInBounds_toArray, List.set_cons_zero, List.set_cons_succ]
          refine wpAnyH_take (i := 6) (v := ?vn3_6_6) rfl (by kernel_rfl) (by kernel_rfl) (by kernel_rfl) (fun _ _ _ h => h) (Or.inl ⟨by rfl, ?yn3_6_6⟩) hHeld ?rn3_6_6
          case yn3_6_6 => (intro wq hSw; clear hSw; go_simp; try with_reducible rfl)
          try simp only [List.getElem_toArray, List.getElem_cons_zero, List.getElem_cons_succ, Act.put, List.setIfInBounds_toArray, List.set_cons_zero, List.set_cons_succ]
          refine wpAnyH_take (i := 7) (v := ?vn3_7_7) rfl (by kernel_rfl) (by kernel_rfl) (by kernel_rfl) (fun _ _ _ h => h) (Or.inl ⟨by rfl, ?yn3_7_7⟩) hHeld ?rn3_7_7
          case yn3_7_7 => (intro wq hSw; clear hSw; go_simp; try with_reducible rfl)
          try simp only [List.getElem_toArray, List.getElem_cons_zero, List.getElem_cons_succ, Act.put, List.setIfInBounds_toArray, List.set_cons_zero, List.set_cons_succ]
          refine wpAnyH_take (i := 8) (v := ?vn3_8_8) rfl (by kernel_rfl) (by kernel_rfl) (by kernel_rfl) (fun _ _ _ h => h) (Or.inl ⟨by rfl, ?yn3_8_8⟩) hHeld ?rn3_8_8
          case yn3_8_8 => (intro wq hSw; have hq := hqc.out _ hSw; clear hSw; go_simp; try with_reducible rfl)
          try simp only [List.getElem_toArray, List.getElem_cons_zero, List.getElem_cons_succ, Act.put, List.setIfInBounds_toArray, List.set_cons_zero, List.set_cons_succ]
          refine wpAnyH_ready (rs := [4]) (by kernel_rfl) (by simp) ?_
          refine AllReadyH.cons rfl (fun K hK => ?_) AllReadyH.nil
          try simp only [List.getElem_toArray, List.getElem_cons_zero, List.getElem_cons_succ, Act.put, List.setIfInBounds_toArray, List.set_cons_zero, List.set_cons_succ]
          try rw [if_pos (by rfl)]
          go_simp
          refine (hsp.out _ hHeld).mono ?_
          rintro e1 w1 ⟨rfl, hb1⟩
          go_wp2_with fail
          refine hK.out _ _ (hHeld.below hb1) (fun hHeld => ?_)
          clear hK K
          try simp only [List.getElem_toArray, List.getElem_cons_zero, List.getElem_cons_succ, Act.put, List.setIfInBounds_toArray, List.set_cons_zero, List.set_cons_succ]
          refine wpAnyH_ready (rs := [9]) (by kernel_rfl) (by simp) ?_
          refine AllReadyH.cons rfl (fun K hK => ?_) AllReadyH.nil
          try simp only [List.getElem_toArray, List.getElem_cons_zero, List.getElem_cons_succ, Act.put, List.setIfInBounds_toArray, List.set_cons_zero, List.set_cons_succ]
          try rw [if_pos (by rfl)]
          go_simp
          refine (hsq.out _ hHeld).mono ?_
          rintro e2 w2 ⟨rfl, hb2⟩
          go_wp2_with fail
          refine hK.out _ _ (hHeld.below hb2) (fun hHeld => ?_)
          clear hK K
          try simp only [List.getElem_toArray, List.getElem_cons_zero, List.getElem_cons_succ, Act.put, List.setIfInBounds_toArray, List.set_cons_zero, List.set_cons_succ]
          refine wpAnyH_take (i := 10) (v := ?vn3_9_10) rfl (by kernel_rfl) (by kernel_rfl) (by kernel_rfl) (fun _ _ _ h => h) (Or.inl ⟨by rfl, ?yn3_9_10⟩) hHeld ?rn3_9_10
          case yn3_9_10 => (intro wq hSw; clear hSw; go_simp; try with_reducible rfl)
          try simp only [List.getElem_toArray, List.getElem_cons_zero, List.getElem_cons_succ, Act.put, List.setIfInBounds_toArray, List.set_cons_zero, List.set_cons_succ]
          refine wpAnyH_take (i := 11) (v := ?vn3_10_11) rfl (by kernel_rfl) (by kernel_rfl) (by kernel_rfl) (fun _ _ _ h => h) (Or.inl ⟨by rfl, ?yn3_10_11⟩) hHeld ?rn3_10_11
          case yn3_10_11 => (intro wq hSw; clear hSw; go_simp; try with_reducible rfl)
          try simp only [List.getElem_toArray, List.getElem_cons_zero, List.getElem_cons_succ, Act.put, List.setIfInBounds_toArray, List.set_cons_zero, List.set_cons_succ]
          refine wpAnyH_take (i := 12) (v := ?vn3_11_12) rfl (by kernel_rfl) (by kernel_rfl) (by kernel_rfl) (fun _ _ _ h => h) (Or.inl ⟨by rfl, ?yn3_11_12⟩) hHeld ?rn3_11_12
          case yn3_11_12 => (intro wq hSw; clear hSw; go_simp; try with_reducible rfl)
          try simp only [List.getElem_toArray, List.getElem_cons_zero, List.getElem_cons_succ, Act.put, List.setIfInBounds_toArray, List.set_cons_zero, List.set_cons_succ]
          refine wpAnyH_take (i := 13) (v := ?vn3_12_13) rfl (by kernel_rfl) (by kernel_rfl) (by kernel_rfl) (fun _ _ _ h => h) (Or.inl ⟨by rfl, ?yn3_12_13⟩) hHeld ?rn3_12_13
          case yn3_12_13 => (intro wq hSw; clear hSw; go_simp; try with_reducible rfl)
          try simp only [List.getElem_toArray, List.getElem_cons_zero, List.getElem_cons_succ, Act.put, List.setIfInBounds_toArray, List.set_cons_zero, List.set_cons_succ]
          refine wpAnyH_take (i := 14) (v := ?vn3_13_14) rfl (by kernel_rfl) (by kernel_rfl) (by kernel_rfl) (fun _ _ _ h => h) (Or.inl ⟨by rfl, ?yn3_13_14⟩) hHeld ?rn3_13_14
          case yn3_13_14 => (intro wq hSw; clear hSw; go_simp; try with_reducible rfl)
          try simp only [List.getElem_toArray, List.getElem_cons_zero, List.getElem_cons_succ, Act.put, List.setIfInBounds_toArray, List.set_cons_zero, List.set_cons_succ]
          refine wpAnyH_take (i := 15) (v := ?vn3_14_15) rfl (by kernel_rfl) (by kernel_rfl) (by kernel_rfl) (fun _ _ _ h => h) (Or.inl ⟨by rfl, ?yn3_14_15⟩) hHeld ?rn3_14_15
          case yn3_14_15 => (intro wq hSw; have hq := hpt.out _ hSw; clear hSw; go_simp; try with_reducible rfl)
          try simp only [List.getElem_toArray, List.getElem_cons_zero, List.getElem_cons_succ, Act.put, List.setIfInBounds_toArray, List.set_cons_zero, List.set_cons_succ]
          refine wpAnyH_take (i := 16) (v := ?vn3_15_16) rfl (by kernel_rfl) (by kernel_rfl) (by kernel_rfl) (fun _ _ _ h => h) (Or.inl ⟨by rfl, ?yn3_15_16⟩) hHeld ?rn3_15_16
          case yn3_15_16 => (intro wq hSw; clear hSw; go_simp; try with_reducible rfl)
          try simp only [List.getElem_toArray, List.getElem_cons_zero, List.getElem_cons_succ, Act.put, List.setIfInBounds_toArray, List.set_cons_zero, List.set_cons_succ]
          refine wpAnyH_take (i := 17) (v := ?vn3_16_17) rfl (by kernel_rfl) (by kernel_rfl) (by kernel_rfl) (fun _ _ _ h => h) (Or.inl ⟨by rfl, ?yn3_16_17⟩) hHeld ?rn3_16_17
          case yn3_16_17 => (intro wq hSw; clear hSw; go_simp; try with_reducible rfl)
          try simp only [List.getElem_toArray, List.getElem_cons_zero, List.getElem_cons_succ, Act.put, List.setIfInBounds_toArray, List.set_cons_zero, List.set_cons_succ]
          refine wpAnyH_take (i := 18) (v := ?vn3_17_18) rfl (by kernel_rfl) (by kernel_rfl) (by kernel_rfl) (fun _ _ _ h => h) (Or.inl ⟨by rfl, ?yn3_17_18⟩) hHeld ?rn3_17_18
          case yn3_17_18 => (intro wq hSw; clear hSw; go_simp; try with_reducible rfl)
          try simp only [List.getElem_toArray, List.getElem_cons_zero, List.getElem_cons_succ, Act.put, List.setIfInBounds_toArray, List.set_cons_zero, List.set_cons_succ]
          refine wpAnyH_take (i := 19) (v := ?vn3_18_19) rfl (by kernel_rfl) (by kernel_rfl) (by kernel_rfl) (fun _ _ _ h => h) (Or.inl ⟨by rfl, ?yn3_18_19⟩) hHeld ?rn3_18_19
          case yn3_18_19 => (intro wq hSw; have hq := hqt.out _ hSw; clear hSw; go_simp; try with_reducible rfl)
          try simp only [List.getElem_toArray, List.getElem_cons_zero, List.getElem_cons_succ, Act.put, List.setIfInBounds_toArray, List.set_cons_zero, List.set_cons_succ]
          refine wpAnyH_take (i := 20) (v := ?vn3_19_20) rfl (by kernel_rfl) (by kernel_rfl) (by kernel_rfl) (fun _ _ _ h => h) (Or.inl ⟨by rfl, ?yn3_19_20⟩) hHeld ?rn3_19_20
          case yn3_19_20 => (intro wq hSw; clear hSw; go_simp; try with_reducible rfl)
          try simp only [List.getElem_toArray, List.getElem_cons_zero, List.getElem_cons_succ, Act.put, List.setIfInBounds_toArray, List.set_cons_zero, List.set_cons_succ]
          refine wpAnyH_take (i := 21) (v := ?vn3_20_21) rfl (by kernel_rfl) (by kernel_rfl) (by kernel_rfl) (fun _ _ _ h => h) (Or.inl ⟨by rfl, ?yn3_20_21⟩) hHeld ?rn3_20_21
          case yn3_20_21 => (intro wq hSw; clear hSw; go_simp; try with_reducible rfl)
          try simp only [List.getElem_toArray, List.getElem_cons_zero, List.getElem_cons_succ, Act.put, List.setIfInBounds_toArray, List.set_cons_zero, List.set_cons_succ]
          refine wpAnyH_take (i := 22) (v := ?vn3_21_22) rfl (by kernel_rfl) (by kernel_rfl) (by kernel_rfl) (fun _ _ _ h => h) (Or.inl ⟨by rfl, ?yn3_21_22⟩) hHeld ?rn3_21_22
          case yn3_21_22 => (intro wq hSw; clear hSw; go_simp; try with_reducible rfl)
          try simp only [List.getElem_toArray, List.getElem_cons_zero, List.getElem_cons_succ, Act.put, List.setIfInBounds_toArray, List.set_cons_zero, List.set_cons_succ]
          refine wpAnyH_take (i := 23) (v := ?vn3_22_23) rfl (by kernel_rfl) (by kernel_rfl) (by kernel_rfl) (fun _ _ _ h => h) (Or.inl ⟨by rfl, ?yn3_22_23⟩) hHeld ?rn3_22_23
          case yn3_22_23 => (intro wq hSw; clear hSw; go_simp; try with_reducible rfl)
          try simp only [List.getElem_toArray, List.getElem_cons_zero, List.getElem_cons_succ, Act.put, List.setIfInBounds_toArray, List.set_cons_zero, List.set_cons_succ]
          refine wpAnyH_take (i := 24) (v := ?vn3_23_24) rfl (by kernel_rfl) (by kernel_rfl) (by kernel_rfl) (fun _ _ _ h => h) (Or.inl ⟨by rfl, ?yn3_23_24⟩) hHeld ?rn3_23_24
          case yn3_23_24 => (intro wq hSw; clear hSw; go_simp; try with_reducible rfl)
          try simp only [List.getElem_toArray, List.getElem_cons_zero, List.getElem_cons_succ, Act.put, List.setIfInBounds_toArray, List.set_cons_zero, List.set_cons_succ]
          refine wpAnyH_take (i := 25) (v := ?vn3_24_25) rfl (by kernel_rfl) (by kernel_rfl) (by kernel_rfl) (fun _ _ _ h => h) (Or.inl ⟨by rfl, ?yn3_24_25⟩) hHeld ?rn3_24_25
          case yn3_24_25 => (intro wq hSw; clear hSw; go_simp; try with_reducible rfl)
          try simp only [List.getElem_toArray, List.getElem_cons_zero, List.getElem_cons_succ, Act.put, List.setIfInBounds_toArray, List.set_cons_zero, List.set_cons_succ]
          refine wpAnyH_take (i := 26) (v := ?vn3_25_26) rfl (by kernel_rfl) (by kernel_rfl) (by kernel_rfl) (fun _ _ _ h => h) (Or.inl ⟨by rfl, ?yn3_25_26⟩) hHeld ?rn3_25_26
          case yn3_25_26 => (intro wq hSw; have hq := hps.out _ hSw; clear hSw; go_simp; try with_reducible rfl)
          try simp only [List.getElem_toArray, List.getElem_cons_zero, List.getElem_cons_succ, Act.put, List.setIfInBounds_toArray, List.set_cons_zero, List.set_cons_succ]
          refine wpAnyH_take (i := 28) (v := ?vn3_26_28) rfl (by kernel_rfl) (by kernel_rfl) (by kernel_rfl) (fun _ _ _ h => h) (Or.inl ⟨by rfl, ?yn3_26_28⟩) hHeld ?rn3_26_28
          case yn3_26_28 => (intro wq hSw; clear hSw; go_simp; try with_reducible rfl)
          try simp only [List.getElem_toArray, List.getElem_cons_zero, List.getElem_cons_succ, Act.put, List.setIfInBounds_toArray, List.set_cons_zero, List.set_cons_succ]
          refine wpAnyH_take (i := 29) (v := ?vn3_27_29) rfl (by kernel_rfl) (by kernel_rfl) (by kernel_rfl) (fun _ _ _ h => h) (Or.inl ⟨by rfl, ?yn3_27_29⟩) hHeld ?rn3_27_29
          case yn3_27_29 => (intro wq hSw; clear hSw; go_simp; try with_reducible rfl)
          try simp only [List.getElem_toArray, List.getElem_cons_zero, List.getElem_cons_succ, Act.put, List.setIfInBounds_toArray, List.set_cons_zero, List.set_cons_succ]
          refine wpAnyH_take (i := 30) (v := ?vn3_28_30) rfl (by kernel_rfl) (by kernel_rfl) (by kernel_rfl) (fun _ _ _ h => h) (Or.inl ⟨by rfl, ?yn3_28_30⟩) hHeld ?rn3_28_30
          case yn3_28_30 => (intro wq hSw; clear hSw; go_simp; try with_reducible rfl)
          try simp only [List.getElem_toArray, List.getElem_cons_zero, List.getElem_cons_succ, Act.put, List.setIfInBounds_toArray, List.set_cons_zero, List.set_cons_succ]
          refine wpAnyH_take (i := 31) (v := ?vn3_29_31) rfl (by kernel_rfl) (by kernel_rfl) (by kernel_rfl) (fun _ _ _ h => h) (Or.inl ⟨by rfl, ?yn3_29_31⟩) hHeld ?rn3_29_31
          case yn3_29_31 => (intro wq hSw; have hq := hqs.out _ hSw; clear hSw; go_simp; try with_reducible rfl)
          try simp only [List.getElem_toArray, List.getElem_cons_zero, List.getElem_cons_succ, Act.put, List.setIfInBounds_toArray, List.set_cons_zero, List.set_cons_succ]
          refine wpAnyH_ready (rs := [27]) (by kernel_rfl) (by simp) ?_
          refine AllReadyH.cons rfl (fun K hK => ?_) AllReadyH.nil
          try simp only [List.getElem_toArray, List.getElem_cons_zero, List.getElem_cons_succ, Act.put, List.setIfInBounds_toArray, List.set_cons_zero, List.set_cons_succ]
          try rw [if_pos (by rfl)]
          go_simp
          refine (sm_cas _ _).mono ?_
          rintro e3 w3 ⟨rfl, rfl⟩
          go_wp2_with fail
          refine hK.out _ _ (hHeld) (fun hHeld => ?_)
          clear hK K
          try simp only [List.getElem_toArray, List.getElem_cons_zero, List.getElem_cons_succ, Act.put, List.setIfInBounds_toArray, List.set_cons_zero, List.set_cons_succ]
          refine wpAnyH_ready (rs := [32]) (by kernel_rfl) (by simp) ?_
          refine AllReadyH.cons rfl (fun K hK => ?_) AllReadyH.nil
          try simp only [List.getElem_toArray, List.getElem_cons_zero, List.getElem_cons_succ, Act.put, List.setIfInBounds_toArray, List.set_cons_zero, List.set_cons_succ]
          try rw [if_pos (by rfl)]
          go_simp
          refine (sm_cas _ _).mono ?_
          rintro e4 w4 ⟨rfl, rfl⟩
          go_wp2_with fail
          refine hK.out _ _ (hHeld) (fun hHeld => ?_)
          clear hK K
          try simp only [List.getElem_toArray, List.getElem_cons_zero, List.getElem_cons_succ, Act.put, List.setIfInBounds_toArray, List.set_cons_zero, List.set_cons_succ]
          refine wpAnyH_take (i := 33) (v := ?vn3_30_33) rfl (by kernel_rfl) (by kernel_rfl) (by kernel_rfl) (fun _ _ _ h => h) (Or.inl ⟨by rfl, ?yn3_30_33⟩) hHeld ?rn3_30_33
          case yn3_30_33 => (intro wq hSw; clear hSw; go_simp; try with_reducible rfl)
          try simp only [List.getElem_toArray, List.getElem_cons_zero, List.getElem_cons_succ, Act.put, List.setIfInBounds_toArray, List.set_cons_zero, List.set_cons_succ]
          refine wpAnyH_take (i := 34) (v := ?vn3_31_34) rfl (by kernel_rfl) (by kernel_rfl) (by kernel_rfl) (fun _ _ _ h => h) (Or.inl ⟨by rfl, ?yn3_31_34⟩) hHeld ?rn3_31_34
          case yn3_31_34 => (intro wq hSw; clear hSw; go_simp; try with_reducible rfl)
          try simp only [List.getElem_toArray, List.getElem_cons_zero, List.getElem_cons_succ, Act.put, List.setIfInBounds_toArray, List.set_cons_zero, List.set_cons_succ]
          refine wpAnyH_take (i := 35) (v := ?vn3_32_35) rfl (by kernel_rfl) (by kernel_rfl) (by kernel_rfl) (fun _ _ _ h => h) (Or.inl ⟨by rfl, ?yn3_32_35⟩) hHeld ?rn3_32_35
          case yn3_32_35 => (intro wq hSw; clear hSw; go_simp; try with_reducible rfl)
          try simp only [List.getElem_toArray, List.getElem_cons_zero, List.getElem_cons_succ, Act.put, List.setIfInBounds_toArray, List.set_cons_zero, List.set_cons_succ]
          refine wpAnyH_take (i := 36) (v := ?vn3_33_36) rfl (by kernel_rfl) (by kernel_rfl) (by kernel_rfl) (fun _ _ _ h => h) (Or.inl ⟨by rfl, ?yn3_33_36⟩) hHeld ?rn3_33_36
          case yn3_33_36 => (intro wq hSw; clear hSw; go_simp; try with_reducible rfl)
          try simp only [List.getElem_toArray, List.getElem_cons_zero, List.getElem_cons_succ, Act.put, List.setIfInBounds_toArray, List.set_cons_zero, List.set_cons_succ]
          refine wpAnyH_take (i := 37) (v := ?vn3_34_37) rfl (by kernel_rfl) (by kernel_rfl) (by kernel_rfl) (fun _ _ _ h => h) (Or.inl ⟨by rfl, ?yn3_34_37⟩) hHeld ?rn3_34_37
          case yn3_34_37 => (intro wq hSw; clear hSw; go_simp; try with_reducible rfl)
          try simp only [List.getElem_toArray, List.getElem_cons_zero, List.getElem_cons_succ, Act.put, List.setIfInBounds_toArray, List.set_cons_zero, List.set_cons_succ]
          refine wpAnyH_take (i := 38) (v := ?vn3_35_38) rfl (by kernel_rfl) (by kernel_rfl) (by kernel_rfl) (fun _ _ _ h => h) (Or.inl ⟨by rfl, ?yn3_35_38⟩) hHeld ?rn3_35_38
          case yn3_35_38 => (intro wq hSw; clear hSw; go_simp; try with_reducible rfl)
          try simp only [List.getElem_toArray, List.getElem_cons_zero, List.getElem_cons_succ, Act.put, List.setIfInBounds_toArray, List.set_cons_zero, List.set_cons_succ]
          refine wpAnyH_take (i := 39) (v := ?vn3_36_39) rfl (by kernel_rfl) (by kernel_rfl) (by kernel_rfl) (fun _ _ _ h => h) (Or.inl ⟨by rfl, ?yn3_36_39⟩) hHeld ?rn3_36_39
          case yn3_36_39 => (intro wq hSw; have hq := hpe.out _ hSw; clear hSw; go_simp; try with_reducible rfl)
          try simp only [List.getElem_toArray, List.getElem_cons_zero, List.getElem_cons_succ, Act.put, List.setIfInBounds_toArray, List.set_cons_zero, List.set_cons_succ]
          refine wpAnyH_take (i := 40) (v := ?vn3_37_40) rfl (by kernel_rfl) (by kernel_rfl) (by kernel_rfl) (fun _ _ _ h => h) (Or.inl ⟨by rfl, ?yn3_37_40⟩) hHeld ?rn3_37_40
          case yn3_37_40 => (intro wq hSw; clear hSw; go_simp; try with_reducible rfl)
          try simp only [List.getElem_toArray, List.getElem_cons_zero, List.getElem_cons_succ, Act.put, List.setIfInBounds_toArray, List.set_cons_zero, List.set_cons_succ]
          refine wpAnyH_take (i := 41) (v := ?vn3_38_41) rfl (by kernel_rfl) (by kernel_rfl) (by kernel_rfl) (fun _ _ _ h => h) (Or.inl ⟨by rfl, ?yn3_38_41⟩) hHeld ?rn3_38_41
          case yn3_38_41 => (intro wq hSw; clear hSw; go_simp; try with_reducible rfl)
          try simp only [List.getElem_toArray, List.getElem_cons_zero, List.getElem_cons_succ, Act.put, List.setIfInBounds_toArray, List.set_cons_zero, List.set_cons_succ]
          refine wpAnyH_take (i := 42) (v := ?vn3_39_42) rfl (by kernel_rfl) (by kernel_rfl) (by kernel_rfl) (fun _ _ _ h => h) (Or.inl ⟨by rfl, ?yn3_39_42⟩) hHeld ?rn3_39_42
          case yn3_39_42 => (intro wq hSw; clear hSw; go_simp; try with_reducible rfl)
          try simp only [List.getElem_toArray, List.getElem_cons_zero, List.getElem_cons_succ, Act.put, List.setIfInBounds_toArray, List.set_cons_zero, List.set_cons_succ]
          refine wpAnyH_take (i := 43) (v := ?vn3_40_43) rfl (by kernel_rfl) (by kernel_rfl) (by kernel_rfl) (fun _ _ _ h => h) (Or.inl ⟨by rfl, ?yn3_40_43⟩) hHeld ?rn3_40_43
          case yn3_40_43 => (intro wq hSw; have hq := hqe.out _ hSw; clear hSw; go_simp; try with_reducible rfl)
          try simp only [List.getElem_toArray, List.getElem_cons_zero, List.getElem_cons_succ, Act.put, List.setIfInBounds_toArray, List.set_cons_zero, List.set_cons_succ]
          refine wpAnyH_take (i := 44) (v := ?vn3_41_44) rfl (by kernel_rfl) (by kernel_rfl) (by kernel_rfl) (fun _ _ _ h => h) (Or.inl ⟨by rfl, ?yn3_41_44⟩) hHeld ?rn3_41_44
          case yn3_41_44 => (intro wq hSw; clear hSw; go_simp; try with_reducible rfl)
          try simp only [List.getElem_toArray, List.getElem_cons_zero, List.getElem_cons_succ, Act.put, List.setIfInBounds_toArray, List.set_cons_zero, List.set_cons_succ]
          refine wpAnyH_take (i := 45) (v := ?vn3_42_45) rfl (by kernel_rfl) (by kernel_rfl) (by kernel_rfl) (fun _ _ _ h => h) (Or.inl ⟨by rfl, ?yn3_42_45⟩) hHeld ?rn3_42_45
          case yn3_42_45 => (intro wq hSw; clear hSw; go_simp; try with_reducible rfl)
          try simp only [List.getElem_toArray, List.getElem_cons_zero, List.getElem_cons_succ, Act.put, List.setIfInBounds_toArray, List.set_cons_zero, List.set_cons_succ]
          refine wpAnyH_take (i := 46) (v := ?vn3_43_46) rfl (by kernel_rfl) (by kernel_rfl) (by kernel_rfl) (fun _ _ _ h => h) (Or.inl ⟨by rfl, ?yn3_43_46⟩) hHeld ?rn3_43_46
          case yn3_43_46 => (intro wq hSw; clear hSw; go_simp; try with_reducible rfl)
          try simp only [List.getElem_toArray, List.getElem_cons_zero, List.getElem_cons_succ, Act.put, List.setIfInBounds_toArray, List.set_cons_zero, List.set_cons_succ]
          refine wpAnyH_done (by kernel_rfl) ?_ _
          clear hHeld
          go_wp2_with fail
          go_ret
          exact ⟨by rw [hR.out]; simp [hy0.out, hy1.out, hy2.out, hy3.out], (drewN_below w 1).trans (hb1.trans (hb2.mono hb1.size))⟩
        case pos =>
          have ht3 : (ep == eq) = true := by rw [hx3]; exact beq_self_eq_true _
          have hy3 := lay hx3; clear hx3
          refine wp_region_held_drew (S := fun w' : World => TwoAt p q tp tq pg bg qg cg w') (by kernel_rfl) hS1.out (fun hHeld => ?_)
          refine wpAnyH_take (i := 0) (v := ?vy3_1_0) rfl (by kernel_rfl) (by kernel_rfl) (by kernel_rfl) (fun _ _ _ h => h) (Or.inl ⟨by rfl, ?yy3_1_0⟩) hHeld ?ry3_1_0
          case yy3_1_0 => (intro wq hSw; clear hSw; go_simp; try with_reducible rfl)
          try simp only [List.getElem_toArray, List.getElem_cons_zero, List.getElem_cons_succ, Act.put, List.setIfInBounds_toArray, List.set_cons_zero, List.set_cons_succ]
          refine wpAnyH_take (i := 1) (v := ?vy3_2_1) rfl (by kernel_rfl) (by kernel_rfl) (by kernel_rfl) (fun _ _ _ h => h) (Or.inl ⟨by rfl, ?yy3_2_1⟩) hHeld ?ry3_2_1
          case yy3_2_1 => (intro wq hSw; clear hSw; go_simp; try with_reducible rfl)
          try simp only [List.getElem_toArray, List.getElem_cons_zero, List.getElem_cons_succ, Act.put, List.setIfInBounds_toArray, List.set_cons_zero, List.set_cons_succ]
          refine wpAnyH_take (i := 2) (v := ?vy3_3_2) rfl (by kernel_rfl) (by kernel_rfl) (by kernel_rfl) (fun _ _ _ h => h) (Or.inl ⟨by rfl, ?yy3_3_2⟩) hHeld ?ry3_3_2
          case yy3_3_2 => (intro wq hSw; clear hSw; go_simp; try with_reducible rfl)
          try simp only [List.getElem_toArray, List.getElem_cons_zero, List.getElem_cons_succ, Act.put, List.setIfInBounds_toArray, List.set_cons_zero, List.set_cons_succ]
          refine wpAnyH_take (i := 3) (v := ?vy3_4_3) rfl (by kernel_rfl) (by kernel_rfl) (by kernel_rfl) (fun _ _ _ h => h) (Or.inl ⟨by rfl, ?yy3_4_3⟩) hHeld ?ry3_4_3
          case yy3_4_3 => (intro wq hSw; have hq := hpc.out _ hSw; clear hSw; go_simp; try with_reducible rfl)
          try simp only [List.getElem_toArray, List.getElem_cons_zero, List.getElem_cons_succ, Act.put, List.setIfInBounds_toArray, List.set_cons_zero, List.set_cons_succ]
          refine wpAnyH_take (i := 5) (v := ?vy3_5_5) rfl (by kernel_rfl) (by kernel_rfl) (by kernel_rfl) (fun _ _ _ h => h) (Or.inl ⟨by rfl, ?yy3_5_5⟩) hHeld ?ry3_5_5
          case yy3_5_5 => (intro wq hSw; clear hSw; go_simp; try with_reducible rfl)
          try simp only [List.getElem_toArray, List.getElem_cons_zero, List.getElem_cons_succ, Act.put, List.setIfInBounds_toArray, List.set_cons_zero, List.set_cons_succ]
          refine wpAnyH_take (i := 6) (v := ?vy3_6_6) rfl (by kernel_rfl) (by kernel_rfl) (by kernel_rfl) (fun _ _ _ h => h) (Or.inl ⟨by rfl, ?yy3_6_6⟩) hHeld ?ry3_6_6
          case yy3_6_6 => (intro wq hSw; clear hSw; go_simp; try with_reducible rfl)
          try simp only [List.getElem_toArray, List.getElem_cons_zero, List.getElem_cons_succ, Act.put, List.setIfInBounds_toArray, List.set_cons_zero, List.set_cons_succ]
          refine wpAnyH_take (i := 7) (v := ?vy3_7_7) rfl (by kernel_rfl) (by kernel_rfl) (by kernel_rfl) (fun _ _ _ h => h) (Or.inl ⟨by rfl, ?yy3_7_7⟩) hHeld ?ry3_7_7
          case yy3_7_7 => (intro wq hSw; clear hSw; go_simp; try with_reducible rfl)
          try simp only [List.getElem_toArray, List.getElem_cons_zero, List.getElem_cons_succ, Act.put, List.setIfInBounds_toArray, List.set_cons_zero, List.set_cons_succ]
          refine wpAnyH_take (i := 8) (v := ?vy3_8_8) rfl (by kernel_rfl) (by kernel_rfl) (by kernel_rfl) (fun _ _ _ h => h) (Or.inl ⟨by rfl, ?yy3_8_8⟩) hHeld ?ry3_8_8
          case yy3_8_8 => (intro wq hSw; have hq := hqc.out _ hSw; clear hSw; go_simp; try with_reducible rfl)
          try simp only [List.getElem_toArray, List.getElem_cons_zero, List.getElem_cons_succ, Act.put, List.setIfInBounds_toArray, List.set_cons_zero, List.set_cons_succ]
          refine wpAnyH_ready (rs := [4]) (by kernel_rfl) (by simp) ?_
          refine AllReadyH.cons rfl (fun K hK => ?_) AllReadyH.nil
          try simp only [List.getElem_toArray, List.getElem_cons_zero, List.getElem_cons_succ, Act.put, List.setIfInBounds_toArray, List.set_cons_zero, List.set_cons_succ]
          try rw [if_pos (by rfl)]
          go_simp
          refine (hsp.out _ hHeld).mono ?_
          rintro e1 w1 ⟨rfl, hb1⟩
          go_wp2_with fail
          refine hK.out _ _ (hHeld.below hb1) (fun hHeld => ?_)
          clear hK K
          try simp only [List.getElem_toArray, List.getElem_cons_zero, List.getElem_cons_succ, Act.put, List.setIfInBounds_toArray, List.set_cons_zero, List.set_cons_succ]
          refine wpAnyH_ready (rs := [9]) (by kernel_rfl) (by simp) ?_
          refine AllReadyH.cons rfl (fun K hK => ?_) AllReadyH.nil
          try simp only [List.getElem_toArray, List.getElem_cons_zero, List.getElem_cons_succ, Act.put, List.setIfInBounds_toArray, List.set_cons_zero, List.set_cons_succ]
          try rw [if_pos (by rfl)]
          go_simp
          refine (hsq.out _ hHeld).mono ?_
          rintro e2 w2 ⟨rfl, hb2⟩
          go_wp2_with fail
          refine hK.out _ _ (hHeld.below hb2) (fun hHeld => ?_)
          clear hK K
          try simp only [List.getElem_toArray, List.getElem_cons_zero, List.getElem_cons_succ, Act.put, List.setIfInBounds_toArray, List.set_cons_zero, List.set_cons_succ]
          refine wpAnyH_take (i := 10) (v := ?vy3_9_10) rfl (by kernel_rfl) (by kernel_rfl) (by kernel_rfl) (fun _ _ _ h => h) (Or.inl ⟨by rfl, ?yy3_9_10⟩) hHeld ?ry3_9_10
          case yy3_9_10 => (intro wq hSw; clear hSw; go_simp; try with_reducible rfl)
          try simp only [List.getElem_toArray, List.getElem_cons_zero, List.getElem_cons_succ, Act.put, List.setIfInBounds_toArray, List.set_cons_zero, List.set_cons_succ]
          refine wpAnyH_take (i := 11) (v := ?vy3_10_11) rfl (by kernel_rfl) (by kernel_rfl) (by kernel_rfl) (fun _ _ _ h => h) (Or.inl ⟨by rfl, ?yy3_10_11⟩) hHeld ?ry3_10_11
          case yy3_10_11 => (intro wq hSw; clear hSw; go_simp; try with_reducible rfl)
          try simp only [List.getElem_toArray, List.getElem_cons_zero, List.getElem_cons_succ, Act.put, List.setIfInBounds_toArray, List.set_cons_zero, List.set_cons_succ]
          refine wpAnyH_take (i := 12) (v := ?vy3_11_12) rfl (by kernel_rfl) (by kernel_rfl) (by kernel_rfl) (fun _ _ _ h => h) (Or.inl ⟨by rfl, ?yy3_11_12⟩) hHeld ?ry3_11_12
          case yy3_11_12 => (intro wq hSw; clear hSw; go_simp; try with_reducible rfl)
          try simp only [List.getElem_toArray, List.getElem_cons_zero, List.getElem_cons_succ, Act.put, List.setIfInBounds_toArray, List.set_cons_zero, List.set_cons_succ]
          refine wpAnyH_take (i := 13) (v := ?vy3_12_13) rfl (by kernel_rfl) (by kernel_rfl) (by kernel_rfl) (fun _ _ _ h => h) (Or.inl ⟨by rfl, ?yy3_12_13⟩) hHeld ?ry3_12_13
          case yy3_12_13 => (intro wq hSw; clear hSw; go_simp; try with_reducible rfl)
          try simp only [List.getElem_toArray, List.getElem_cons_zero, List.getElem_cons_succ, Act.put, List.setIfInBounds_toArray, List.set_cons_zero, List.set_cons_succ]
          refine wpAnyH_take (i := 14) (v := ?vy3_13_14) rfl (by kernel_rfl) (by kernel_rfl) (by kernel_rfl) (fun _ _ _ h => h) (Or.inl ⟨by rfl, ?yy3_13_14⟩) hHeld ?ry3_13_14
          case yy3_13_14 => (intro wq hSw; clear hSw; go_simp; try with_reducible rfl)
          try simp only [List.getElem_toArray, List.getElem_cons_zero, List.getElem_cons_succ, Act.put, List.setIfInBounds_toArray, List.set_cons_zero, List.set_cons_succ]
          refine wpAnyH_take (i := 15) (v := ?vy3_14_15) rfl (by kernel_rfl) (by kernel_rfl) (by kernel_rfl) (fun _ _ _ h => h) (Or.inl ⟨by rfl, ?yy3_14_15⟩) hHeld ?ry3_14_15
          case yy3_14_15 => (intro wq hSw; have hq := hpt.out _ hSw; clear hSw; go_simp; try with_reducible rfl)
          try simp only [List.getElem_toArray, List.getElem_cons_zero, List.getElem_cons_succ, Act.put, List.setIfInBounds_toArray, List.set_cons_zero, List.set_cons_succ]
          refine wpAnyH_take (i := 16) (v := ?vy3_15_16) rfl (by kernel_rfl) (by kernel_rfl) (by kernel_rfl) (fun _ _ _ h => h) (Or.inl ⟨by rfl, ?yy3_15_16⟩) hHeld ?ry3_15_16
          case yy3_15_16 => (intro wq hSw; clear hSw; go_simp; try with_reducible rfl)
          try simp only [List.getElem_toArray, List.getElem_cons_zero, List.getElem_cons_succ, Act.put, List.setIfInBounds_toArray, List.set_cons_zero, List.set_cons_succ]
          refine wpAnyH_take (i := 17) (v := ?vy3_16_17) rfl (by kernel_rfl) (by kernel_rfl) (by kernel_rfl) (fun _ _ _ h => h) (Or.inl ⟨by rfl, ?yy3_16_17⟩) hHeld ?ry3_16_17
          case yy3_16_17 => (intro wq hSw; clear hSw; go_simp; try with_reducible rfl)
          try simp only [List.getElem_toArray, List.getElem_cons_zero, List.getElem_cons_succ, Act.put, List.setIfInBounds_toArray, List.set_cons_zero, List.set_cons_succ]
          refine wpAnyH_take (i := 18) (v := ?vy3_17_18) rfl (by kernel_rfl) (by kernel_rfl) (by kernel_rfl) (fun _ _ _ h => h) (Or.inl ⟨by rfl, ?yy3_17_18⟩) hHeld ?ry3_17_18
          case yy3_17_18 => (intro wq hSw; clear hSw; go_simp; try with_reducible rfl)
          try simp only [List.getElem_toArray, List.getElem_cons_zero, List.getElem_cons_succ, Act.put, List.setIfInBounds_toArray, List.set_cons_zero, List.set_cons_succ]
          refine wpAnyH_take (i := 19) (v := ?vy3_18_19) rfl (by kernel_rfl) (by kernel_rfl) (by kernel_rfl) (fun _ _ _ h => h) (Or.inl ⟨by rfl, ?yy3_18_19⟩) hHeld ?ry3_18_19
          case yy3_18_19 => (intro wq hSw; have hq := hqt.out _ hSw; clear hSw; go_simp; try with_reducible rfl)
          try simp only [List.getElem_toArray, List.getElem_cons_zero, List.getElem_cons_succ, Act.put, List.setIfInBounds_toArray, List.set_cons_zero, List.set_cons_succ]
          refine wpAnyH_take (i := 20) (v := ?vy3_19_20) rfl (by kernel_rfl) (by kernel_rfl) (by kernel_rfl) (fun _ _ _ h => h) (Or.inl ⟨by rfl, ?yy3_19_20⟩) hHeld ?ry3_19_20
          case yy3_19_20 => (intro wq hSw; clear hSw; go_simp; try with_reducible rfl)
          try simp only [List.getElem_toArray, List.getElem_cons_zero, List.getElem_cons_succ, Act.put, List.setIfInBounds_toArray, List.set_cons_zero, List.set_cons_succ]
          refine wpAnyH_take (i := 21) (v := ?vy3_20_21) rfl (by kernel_rfl) (by kernel_rfl) (by kernel_rfl) (fun _ _ _ h => h) (Or.inl ⟨by rfl, ?yy3_20_21⟩) hHeld ?ry3_20_21
          case yy3_20_21 => (intro wq hSw; clear hSw; go_simp; try with_reducible rfl)
          try simp only [List.getElem_toArray, List.getElem_cons_zero, List.getElem_cons_succ, Act.put, List.setIfInBounds_toArray, List.set_cons_zero, List.set_cons_succ]
          refine wpAnyH_take (i := 22) (v := ?vy3_21_22) rfl (by kernel_rfl) (by kernel_rfl) (by kernel_rfl) (fun _ _ _ h => h) (Or.inl ⟨by rfl, ?yy3_21_22⟩) hHeld ?ry3_21_22
          case yy3_21_22 => (intro wq hSw; clear hSw; go_simp; try with_reducible rfl)
          try simp only [List.getElem_toArray, List.getElem_cons_zero, List.getElem_cons_succ, Act.put, List.setIfInBounds_toArray, List.set_cons_zero, List.set_cons_succ]
          refine wpAnyH_take (i := 23) (v := ?vy3_22_23) rfl (by kernel_rfl) (by kernel_rfl) (by kernel_rfl) (fun _ _ _ h => h) (Or.inl ⟨by rfl, ?yy3_22_23⟩) hHeld ?ry3_22_23
          case yy3_22_23 => (intro wq hSw; clear hSw; go_simp; try with_reducible rfl)
          try simp only [List.getElem_toArray, List.getElem_cons_zero, List.getElem_cons_succ, Act.put, List.setIfInBounds_toArray, List.set_cons_zero, List.set_cons_succ]
          refine wpAnyH_take (i := 24) (v := ?vy3_23_24) rfl (by kernel_rfl) (by kernel_rfl) (by kernel_rfl) (fun _ _ _ h => h) (Or.inl ⟨by rfl, ?yy3_23_24⟩) hHeld ?ry3_23_24
          case yy3_23_24 => (intro wq hSw; clear hSw; go_simp; try with_reducible rfl)
          try simp only [List.getElem_toArray, List.getElem_cons_zero, List.getElem_cons_succ, Act.put, List.setIfInBounds_toArray, List.set_cons_zero, List.set_cons_succ]
          refine wpAnyH_take (i := 25) (v := ?vy3_24_25) rfl (by kernel_rfl) (by kernel_rfl) (by kernel_rfl) (fun _ _ _ h => h) (Or.inl ⟨by rfl, ?yy3_24_25⟩) hHeld ?ry3_24_25
          case yy3_24_25 => (intro wq hSw; clear hSw; go_simp; try with_reducible rfl)
          try simp only [List.getElem_toArray, List.getElem_cons_zero, List.getElem_cons_succ, Act.put, List.setIfInBounds_toArray, List.set_cons_zero, List.set_cons_succ]
          refine wpAnyH_take (i := 26) (v := ?vy3_25_26) rfl (by kernel_rfl) (by kernel_rfl) (by kernel_rfl) (fun _ _ _ h => h) (Or.inl ⟨by rfl, ?yy3_25_26⟩) hHeld ?ry3_25_26
          case yy3_25_26 => (intro wq hSw; have hq := hps.out _ hSw; clear hSw; go_simp; try with_reducible rfl)
          try simp only [List.getElem_toArray, List.getElem_cons_zero, List.getElem_cons_succ, Act.put, List.setIfInBounds_toArray, List.set_cons_zero, List.set_cons_succ]
          refine wpAnyH_take (i := 28) (v := ?vy3_26_28) rfl (by kernel_rfl) (by kernel_rfl) (by kernel_rfl) (fun _ _ _ h => h) (Or.inl ⟨by rfl, ?yy3_26_28⟩) hHeld ?ry3_26_28
          case yy3_26_28 => (intro wq hSw; clear hSw; go_simp; try with_reducible rfl)
          try simp only [List.getElem_toArray, List.getElem_cons_zero, List.getElem_cons_succ, Act.put, List.setIfInBounds_toArray, List.set_cons_zero, List.set_cons_succ]
          refine wpAnyH_take (i := 29) (v := ?vy3_27_29) rfl (by kernel_rfl) (by kernel_rfl) (by kernel_rfl) (fun _ _ _ h => h) (Or.inl ⟨by rfl, ?yy3_27_29⟩) hHeld ?ry3_27_29
          case yy3_27_29 => (intro wq hSw; clear hSw; go_simp; try with_reducible rfl)
          try simp only [List.getElem_toArray, List.getElem_cons_zero, List.getElem_cons_succ, Act.put, List.setIfInBounds_toArray, List.set_cons_zero, List.set_cons_succ]
          refine wpAnyH_take (i := 30) (v := ?vy3_28_30) rfl (by kernel_rfl) (by kernel_rfl) (by kernel_rfl) (fun _ _ _ h => h) (Or.inl ⟨by rfl, ?yy3_28_30⟩) hHeld ?ry3_28_30
          case yy3_28_30 => (intro wq hSw; clear hSw; go_simp; try with_reducible rfl)
          try simp only [List.getElem_toArray, List.getElem_cons_zero, List.getElem_cons_succ, Act.put, List.setIfInBounds_toArray, List.set_cons_zero, List.set_cons_succ]
          refine wpAnyH_take (i := 31) (v := ?vy3_29_31) rfl (by kernel_rfl) (by kernel_rfl) (by kernel_rfl) (fun _ _ _ h => h) (Or.inl ⟨by rfl, ?yy3_29_31⟩) hHeld ?ry3_29_31
          case yy3_29_31 => (intro wq hSw; have hq := hqs.out _ hSw; clear hSw; go_simp; try with_reducible rfl)
          try simp only [List.getElem_toArray, List.getElem_cons_zero, List.getElem_cons_succ, Act.put, List.setIfInBounds_toArray, List.set_cons_zero, List.set_cons_succ]
          refine wpAnyH_ready (rs := [27]) (by kernel_rfl) (by simp) ?_
          refine AllReadyH.cons rfl (fun K hK => ?_) AllReadyH.nil
          try simp only [List.getElem_toArray, List.getElem_cons_zero, List.getElem_cons_succ, Act.put, List.setIfInBounds_toArray, List.set_cons_zero, List.set_cons_succ]
          try rw [if_pos (by rfl)]
          go_simp
          refine (sm_cas _ _).mono ?_
          rintro e3 w3 ⟨rfl, rfl⟩
          go_wp2_with fail
          refine hK.out _ _ (hHeld) (fun hHeld => ?_)
          clear hK K
          try simp only [List.getElem_toArray, List.getElem_cons_zero, List.getElem_cons_succ, Act.put, List.setIfInBounds_toArray, List.set_cons_zero, List.set_cons_succ]
          refine wpAnyH_ready (rs := [32]) (by kernel_rfl) (by simp) ?_
          refine AllReadyH.cons rfl (fun K hK => ?_) AllReadyH.nil
          try simp only [List.getElem_toArray, List.getElem_cons_zero, List.getElem_cons_succ, Act.put, List.setIfInBounds_toArray, List.set_cons_zero, List.set_cons_succ]
          try rw [if_pos (by rfl)]
          go_simp
          refine (sm_cas _ _).mono ?_
          rintro e4 w4 ⟨rfl, rfl⟩
          go_wp2_with fail
          refine hK.out _ _ (hHeld) (fun hHeld => ?_)
          clear hK K
          try simp only [List.getElem_toArray, List.getElem_cons_zero, List.getElem_cons_succ, Act.put, List.setIfInBounds_toArray, List.set_cons_zero, List.set_cons_succ]
          refine wpAnyH_take (i := 33) (v := ?vy3_30_33) rfl (by kernel_rfl) (by kernel_rfl) (by kernel_rfl) (fun _ _ _ h => h) (Or.inl ⟨by rfl, ?yy3_30_33⟩) hHeld ?ry3_30_33
          case yy3_30_33 => (intro wq hSw; clear hSw; go_simp; try with_reducible rfl)
          try simp only [List.getElem_toArray, List.getElem_cons_zero, List.getElem_cons_succ, Act.put, List.setIfInBounds_toArray, List.set_cons_zero, List.set_cons_succ]
          refine wpAnyH_take (i := 34) (v := ?vy3_31_34) rfl (by kernel_rfl) (by kernel_rfl) (by kernel_rfl) (fun _ _ _ h => h) (Or.inl ⟨by rfl, ?yy3_31_34⟩) hHeld ?ry3_31_34
          case yy3_31_34 => (intro wq hSw; clear hSw; go_simp; try with_reducible rfl)
          try simp only [List.getElem_toArray, List.getElem_cons_zero, List.getElem_cons_succ, Act.put, List.setIfInBounds_toArray, List.set_cons_zero, List.set_cons_succ]
          refine wpAnyH_take (i := 35) (v := ?vy3_32_35) rfl (by kernel_rfl) (by kernel_rfl) (by kernel_rfl) (fun _ _ _ h => h) (Or.inl ⟨by rfl, ?yy3_32_35⟩) hHeld ?ry3_32_35
          case yy3_32_35 => (intro wq hSw; clear hSw; go_simp; try with_reducible rfl)
          try simp only [List.getElem_toArray, List.getElem_cons_zero, List.getElem_cons_succ, Act.put, List.setIfInBounds_toArray, List.set_cons_zero, List.set_cons_succ]
          refine wpAnyH_take (i := 36) (v := ?vy3_33_36) rfl (by kernel_rfl) (by kernel_rfl) (by kernel_rfl) (fun _ _ _ h => h) (Or.inl ⟨by rfl, ?yy3_33_36⟩) hHeld ?ry3_33_36
          case yy3_33_36 => (intro wq hSw; clear hSw; go_simp; try with_reducible rfl)
          try simp only [List.getElem_toArray, List.getElem_cons_zero, List.getElem_cons_succ, Act.put, List.setIfInBounds_toArray, List.set_cons_zero, List.set_cons_succ]
          refine wpAnyH_take (i := 37) (v := ?vy3_34_37) rfl (by kernel_rfl) (by kernel_rfl) (by kernel_rfl) (fun _ _ _ h => h) (Or.inl ⟨by rfl, ?yy3_34_37⟩) hHeld ?ry3_34_37
          case yy3_34_37 => (intro wq hSw; clear hSw; go_simp; try with_reducible rfl)
          try simp only [List.getElem_toArray, List.getElem_cons_zero, List.getElem_cons_succ, Act.put, List.setIfInBounds_toArray, List.set_cons_zero, List.set_cons_succ]
          refine wpAnyH_take (i := 38) (v := ?vy3_35_38) rfl (by kernel_rfl) (by kernel_rfl) (by kernel_rfl) (fun _ _ _ h => h) (Or.inl ⟨by rfl, ?yy3_35_38⟩) hHeld ?ry3_35_38
          case yy3_35_38 => (intro wq hSw; clear hSw; go_simp; try with_reducible rfl)
          try simp only [List.getElem_toArray, List.getElem_cons_zero, List.getElem_cons_succ, Act.put, List.setIfInBounds_toArray, List.set_cons_zero, List.set_cons_succ]
          refine wpAnyH_take (i := 39) (v := ?vy3_36_39) rfl (by kernel_rfl) (by kernel_rfl) (by kernel_rfl) (fun _ _ _ h => h) (Or.inl ⟨by rfl, ?yy3_36_39⟩) hHeld ?ry3_36_39
          case yy3_36_39 => (intro wq hSw; have hq := hpe.out _ hSw; clear hSw; go_simp; try with_reducible rfl)
          try simp only [List.getElem_toArray, List.getElem_cons_zero, List.getElem_cons_succ, Act.put, List.setIfInBounds_toArray, List.set_cons_zero, List.set_cons_succ]
          refine wpAnyH_take (i := 40) (v := ?vy3_37_40) rfl (by kernel_rfl) (by kernel_rfl) (by kernel_rfl) (fun _ _ _ h => h) (Or.inl ⟨by rfl, ?yy3_37_40⟩) hHeld ?ry3_37_40
          case yy3_37_40 => (intro wq hSw; clear hSw; go_simp; try with_reducible rfl)
          try simp only [List.getElem_toArray, List.getElem_cons_zero, List.getElem_cons_succ, Act.put, List.setIfInBounds_toArray, List.set_cons_zero, List.set_cons_succ]
          refine wpAnyH_take (i := 41) (v := ?vy3_38_41) rfl (by kernel_rfl) (by kernel_rfl) (by kernel_rfl) (fun _ _ _ h => h) (Or.inl ⟨by rfl, ?yy3_38_41⟩) hHeld ?ry3_38_41
          case yy3_38_41 => (intro wq hSw; clear hSw; go_simp; try with_reducible rfl)
          try simp only [List.getElem_toArray, List.getElem_cons_zero, List.getElem_cons_succ, Act.put, List.setIfInBounds_toArray, List.set_cons_zero, List.set_cons_succ]
          refine wpAnyH_take (i := 42) (v := ?vy3_39_42) rfl (by kernel_rfl) (by kernel_rfl) (by kernel_rfl) (fun _ _ _ h => h) (Or.inl ⟨by rfl, ?yy3_39_42⟩) hHeld ?ry3_39_42
          case yy3_39_42 => (intro wq hSw; clear hSw; go_simp; try with_reducible rfl)
          try simp only [List.getElem_toArray, List.getElem_cons_zero, List.getElem_cons_succ, Act.put, List.setIfInBounds_toArray, List.set_cons_zero, List.set_cons_succ]
          refine wpAnyH_take (i := 43) (v := ?vy3_40_43) rfl (by kernel_rfl) (by kernel_rfl) (by kernel_rfl) (fun _ _ _ h => h) (Or.inl ⟨by rfl, ?yy3_40_43⟩) hHeld ?ry3_40_43
          case yy3_40_43 => (intro wq hSw; have hq := hqe.out _ hSw; clear hSw; go_simp; try with_reducible rfl)
          try simp only [List.getElem_toArray, List.getElem_cons_zero, List.getElem_cons_succ, Act.put, List.setIfInBounds_toArray, List.set_cons_zero, List.set_cons_succ]
          refine wpAnyH_take (i := 44) (v := ?vy3_41_44) rfl (by kernel_rfl) (by kernel_rfl) (by kernel_rfl) (fun _ _ _ h => h) (Or.inl ⟨by rfl, ?yy3_41_44⟩) hHeld ?ry3_41_44
          case yy3_41_44 => (intro wq hSw; clear hSw; go_simp; try with_reducible rfl)
          try simp only [List.getElem_toArray, List.getElem_cons_zero, List.getElem_cons_succ, Act.put, List.setIfInBounds_toArray, List.set_cons_zero, List.set_cons_succ]
          refine wpAnyH_take (i := 45) (v := ?vy3_42_45) rfl (by kernel_rfl) (by kernel_rfl) (by kernel_rfl) (fun _ _ _ h => h) (Or.inl ⟨by rfl, ?yy3_42_45⟩) hHeld ?ry3_42_45
          case yy3_42_45 => (intro wq hSw; clear hSw; go_simp; try with_reducible rfl)
          try simp only [List.getElem_toArray, List.getElem_cons_zero, List.getElem_cons_succ, Act.put, List.setIfInBounds_toArray, List.set_cons_zero, List.set_cons_succ]
          refine wpAnyH_take (i := 46) (v := ?vy3_43_46) rfl (by kernel_rfl) (by kernel_rfl) (by kernel_rfl) (fun _ _ _ h => h) (Or.inl ⟨by rfl, ?yy3_43_46⟩) hHeld ?ry3_43_46
          case yy3_43_46 => (intro wq hSw; clear hSw; go_simp; try with_reducible rfl)
          try simp only [List.getElem_toArray, List.getElem_cons_zero, List.getElem_cons_succ, Act.put, List.setIfInBounds_toArray, List.set_cons_zero, List.set_cons_succ]
          refine wpAnyH_done (by kernel_rfl) ?_ _
          clear hHeld
          go_wp2_with fail
          go_ret
          exact ⟨by rw [hR.out]; simp [hy0.out, hy1.out, hy2.out, hy3.out], (drewN_below w 1).trans (hb1.trans (hb2.mono hb1.size))⟩
end Go.Proofs.YtplkcmlpomjojaaDoor
-- Sp
namespace Go.Proofs.YtplkcmlpomjojaaDoor
open Go Go.RowKit
set_option maxHeartbeats 8000000
set_option linter.unusedSimpArgs false
set_option linter.unusedVariables false
set_option maxRecDepth 100000

theorem sp_door (x v : Value) (w : World) {r : Bool} (h : Calls Tryd.prog 38 #[x, v] w fun e w' => e = .returned (.bool r) ∧ Below w.heap.size w w') :
    Calls Tryd.prog 23 #[x, v] w fun e w' => e = .returned (.bool r) ∧ Below w.heap.size w w' := by
  have hs := lay h
  clear h
  go_enter Tryd.func23, Tryd.ntmps23
  go_wp2_with (go_at_call 38; refine hs.out.mono ?_; rintro e1 w1 ⟨rfl, hb1⟩)
  go_ret
  exact ⟨rfl, hb1⟩
theorem sp_idle (p q : Addr) (w : World) :
    CallsD Tryd.prog 22 #[.pointer (some p), .pointer (some q)] .returning w fun e u' w' => e = .returned (.tuple #[]) ∧ u' = .returning ∧ w = w' := by
  refine callsD_of_wpS Tryd.func22 rfl fun c₀ cs hu => ?_
  apply wpS_seq
  apply wpS_region
  simp [wpOpsS, go_sem, recoverD, hu, Tryd.ntmps22, Exit.thenS]
  refine wpS_cond (t := false) (by simp [Act.eval, Array.replicate]) ?_
  simp only [Bool.false_eq_true, if_false]
  refine wpS_of_wp (wp_skip ?_)
  cases c₀
  simp_all [bodyPostS, results, Tryd.results22]
/-- Two positions as arguments, and two variables of one cell behind them. -/
def spW (w : World) (p q : List Int) (x y : Value) (tx ty : TypeId) : World := (((w.alloc (.cells (ints p) 24)).alloc (.cells (ints q) 24)).alloc (.cells #[x] tx)).alloc (.cells #[y] ty)
theorem spW_rows (w : World) (p q : List Int) (x y : Value) (tx ty : TypeId) : PosAt p w.heap.size (spW w p q x y tx ty) ∧ PosAt q (w.heap.size + 1) (spW w p q x y tx ty) ∧ (spW w p q x y tx ty).heap[w.heap.size + 1 + 1]? = some (.cells #[x] tx (0, 0)) ∧
    (spW w p q x y tx ty).heap[w.heap.size + 1 + 1 + 1]? = some (.cells #[y] ty (0, 0)) ∧ Below w.heap.size w (spW w p q x y tx ty) ∧ (spW w p q x y tx ty).heap.size = w.heap.size + 4 := by
  refine ⟨heap_keep (heap_keep (heap_alloc2_old w _ _)), heap_keep (heap_keep (heap_alloc2_new w _ _)), heap_keep (heap_at _ _ _ (by simp)), heap_at _ _ _ (by simp), ?_, by simp [spW]⟩
  exact ((((Below.refl _ _).alloc (Nat.le_refl _) _).alloc (by simp) _).alloc (by simp; omega) _).alloc (by simp; omega) _
theorem sp_impl (p q : List Int) (tp tq : Nat) (hp : Sound p tp) (hq : Sound q tq) (p67 : p.getD 67 0 ≤ 1000000) (p68 : p.getD 68 0 ≤ 1000000) (q67 : q.getD 67 0 ≤ 1000000) (q68 : q.getD 68 0 ≤ 1000000) (w : World) (hT : Tabs w) (hA : IntSl w 6 .i8 allL)
    (hw : IntTab w 7 .u8 wPieceL) (hb : IntTab w 8 .u8 bPieceL) :
    Calls Tryd.prog 10 #[.agg (ints p), .agg (ints q)] w fun e w' => e = .returned (.tuple #[.bool (sameB p q tp tq), .bool true]) ∧ Below w.heap.size w w' := by
  have hlp := hp.pos.len
  have hlq := hq.pos.len
  have hmf := makeFunc_run Tryd.prog
  obtain ⟨hr0, hr1, hr2, hr3, hBW, hsz⟩ := spW_rows w p q (.bool false) (.bool false) 4 4
  have hPp : Shut (∀ V, Below (w.heap.size + 1 + 1) (spW w p q (.bool false) (.bool false) 4 4) V → PosAt p w.heap.size V) := fun V hV => (hV.block _ (by omega)).trans hr0
  have hPq : Shut (∀ V, Below (w.heap.size + 1 + 1) (spW w p q (.bool false) (.bool false) 4 4) V → PosAt q (w.heap.size + 1) V) := fun V hV => (hV.block _ (by omega)).trans hr1
  have hGb : Shut (∀ V, Below (w.heap.size + 1 + 1) (spW w p q (.bool false) (.bool false) 4 4) V → Tabs V ∧ IntSl V 6 .i8 allL ∧ IntTab V 7 .u8 wPieceL ∧ IntTab V 8 .u8 bPieceL) := fun V hV => by
    have hb' := hBW.trans (hV.mono (by omega))
    exact ⟨hT.below hb' (Nat.le_refl _), hA.below hb', hw.below hb', hb.below hb'⟩
  have hpz := lay (fun (W : World) hT hA => pz_position p tp hp p67 p68 W hT hA)
  have hqz := lay (fun (W : World) hT hA => pz_position q tq hq q67 q68 W hT hA)
  have hsm := lay (fun (pg bg qg cg : Nat) (W : World) hS => sm_same p q hp.pos hq.pos tp tq pg bg qg cg hp.one hq.one W hS)
  have hr2s := lay hr2
  have hr3s := lay hr3
  have hBs := lay hBW
  clear hT hA hw hb hp hq hr0 hr1 hr2 hr3 hBW
  generalize sameB p q tp tq = res at *
  go_enter_defers Tryd.func10, Tryd.ntmps10
  go_wp2_with fail
  change Code.wp _ _ _ _ (spW w p q (.bool false) (.bool false) 4 4)
  generalize spW w p q (.bool false) (.bool false) 4 4 = W at *
  refine wp_region_noPanic ?_
  refine wp_region_held_drew (S := fun V : World => Below (w.heap.size + 1 + 1) W V) (by kernel_rfl) ((Below.refl _ _).drew) (fun hHeld => ?_)
  refine' wpAnyH_take (i := 0) (v := _) rfl (by kernel_rfl) (by kernel_rfl) (by kernel_rfl) (fun _ _ _ h => h) (yieldsIf_load_mid (by rfl) _ _ rfl _ _ rfl _ _ (fun _ h => (hPp.out _ h).range) Tryd.underlying24 rfl (pos_info p hlp)) hHeld ?_
  try simp only [List.getElem_toArray, List.getElem_cons_zero, List.getElem_cons_succ, Act.put, List.setIfInBounds_toArray, List.set_cons_zero, List.set_cons_succ]
  refine' wpAnyH_take (i := 2) (v := _) rfl (by kernel_rfl) (by kernel_rfl) (by kernel_rfl) (fun _ _ _ h => h) (yieldsIf_load_mid (by rfl) _ _ rfl _ _ rfl _ _ (fun _ h => (hPq.out _ h).range) Tryd.underlying24 rfl (pos_info q hlq)) hHeld ?_
  try simp only [List.getElem_toArray, List.getElem_cons_zero, List.getElem_cons_succ, Act.put, List.setIfInBounds_toArray, List.set_cons_zero, List.set_cons_succ]
  refine wpAnyH_ready (rs := [1]) (by kernel_rfl) (by simp) ?_
  refine AllReadyH.cons rfl (fun K hK => ?_) AllReadyH.nil
  try simp only [List.getElem_toArray, List.getElem_cons_zero, List.getElem_cons_succ, Act.put, List.setIfInBounds_toArray, List.set_cons_zero, List.set_cons_succ]
  try rw [if_pos (by rfl)]
  go_simp
  refine (hpz.out _ (hGb.out _ hHeld).1 (hGb.out _ hHeld).2.1).mono ?_
  rintro e1 w1 ⟨v1, rfl, pg, bg, rfl, hge1, hE1, hb1⟩
  have hc1 := lay (Below.trans (a := W) ((Below.refl W.heap.size W).drew) hb1)
  go_wp2_with fail
  refine hK.out _ _ (hHeld.trans (hb1.mono (by have := hHeld.size; omega))) (fun hHeld => ?_)
  clear hK K
  try simp only [List.getElem_toArray, List.getElem_cons_zero, List.getElem_cons_succ, Act.put, List.setIfInBounds_toArray, List.set_cons_zero, List.set_cons_succ]
  refine wpAnyH_ready (rs := [3]) (by kernel_rfl) (by simp) ?_
  refine AllReadyH.cons rfl (fun K hK => ?_) AllReadyH.nil
  try simp only [List.getElem_toArray, List.getElem_cons_zero, List.getElem_cons_succ, Act.put, List.setIfInBounds_toArray, List.set_cons_zero, List.set_cons_succ]
  try rw [if_pos (by rfl)]
  go_simp
  refine (hqz.out _ (hGb.out _ hHeld).1 (hGb.out _ hHeld).2.1).mono ?_
  rintro e2 w2 ⟨v2, rfl, qg, cg, rfl, hge2, hE2, hb2⟩
  have hc2 := lay (hc1.out.trans (hb2.mono hc1.out.size))
  go_wp2_with fail
  refine hK.out _ _ (hHeld.trans (hb2.mono (by have := hHeld.size; omega))) (fun hHeld => ?_)
  clear hK K
  try simp only [List.getElem_toArray, List.getElem_cons_zero, List.getElem_cons_succ, Act.put, List.setIfInBounds_toArray, List.set_cons_zero, List.set_cons_succ]
  refine wpAnyH_ready (rs := [4]) (by kernel_rfl) (by simp) ?_
  refine AllReadyH.cons rfl (fun K hK => ?_) AllReadyH.nil
  try simp only [List.getElem_toArray, List.getElem_cons_zero, List.getElem_cons_succ, Act.put, List.setIfInBounds_toArray, List.set_cons_zero, List.set_cons_succ]
  try rw [if_pos (by rfl)]
  go_simp
  refine (sp_door _ _ _ (hsm.out pg bg qg cg w2 ⟨hE1.below hb2, hE2, (hGb.out _ hHeld).2.1, (hGb.out _ hHeld).2.2.1, (hGb.out _ hHeld).2.2.2⟩)).mono ?_
  rintro e3 w3 ⟨rfl, hb3⟩
  have hc3 := lay (hc2.out.trans (hb3.mono hc2.out.size))
  go_wp2_with fail
  refine hK.out _ _ (hHeld.trans (hb3.mono (by have := hHeld.size; omega))) (fun hHeld => ?_)
  clear hK K
  try simp only [List.getElem_toArray, List.getElem_cons_zero, List.getElem_cons_succ, Act.put, List.setIfInBounds_toArray, List.set_cons_zero, List.set_cons_succ]
  have r2 := (hc3.out.block (w.heap.size + 1 + 1) (by omega)).trans hr2s.out
  have r3 := (hc3.out.block (w.heap.size + 1 + 1 + 1) (by omega)).trans hr3s.out
  have k0 : w3.cell? ⟨w.heap.size + 1 + 1, 0, none⟩ = some (.bool false) := cell_of_row w3 _ 0 _ _ _ r2
  have k1 : w3.cell? ⟨w.heap.size + 1 + 1 + 1, 0, none⟩ = some (.bool false) := cell_of_row w3 _ 0 _ _ _ r3
  have k2 := frozen_of_row w3 (w.heap.size + 1 + 1) 0 _ _ r2
  have k3 := frozen_of_row w3 (w.heap.size + 1 + 1 + 1) 0 _ _ r3
  have hsz3 := hc3.out.size
  clear r2 r3 hb1 hb2 hb3 hE1 hE2 hge1 hge2
  refine wpAnyH_ready (rs := [5]) (by kernel_rfl) (by simp) ?_
  refine AllReadyH.cons rfl (fun K hK => ?_) AllReadyH.nil
  try simp only [List.getElem_toArray, List.getElem_cons_zero, List.getElem_cons_succ, Act.put, List.setIfInBounds_toArray, List.set_cons_zero, List.set_cons_succ]
  try rw [if_pos (by rfl)]
  go_simp
  refine hK.out _ _ (hHeld.setCell (p := ⟨w.heap.size + 1 + 1, 0, none⟩) (by simp) _) (fun hHeld => ?_)
  clear hK K
  try simp only [List.getElem_toArray, List.getElem_cons_zero, List.getElem_cons_succ, Act.put, List.setIfInBounds_toArray, List.set_cons_zero, List.set_cons_succ]
  refine wpAnyH_ready (rs := [6]) (by kernel_rfl) (by simp) ?_
  refine AllReadyH.cons rfl (fun K hK => ?_) AllReadyH.nil
  try simp only [List.getElem_toArray, List.getElem_cons_zero, List.getElem_cons_succ, Act.put, List.setIfInBounds_toArray, List.set_cons_zero, List.set_cons_succ]
  try rw [if_pos (by rfl)]
  go_simp
  refine hK.out _ _ (hHeld.setCell (p := ⟨w.heap.size + 1 + 1 + 1, 0, none⟩) (by simp) _) (fun hHeld => ?_)
  clear hK K
  try simp only [List.getElem_toArray, List.getElem_cons_zero, List.getElem_cons_succ, Act.put, List.setIfInBounds_toArray, List.set_cons_zero, List.set_cons_succ]
  refine wpAnyH_done (by kernel_rfl) ?_ _
  have hfin := lay hHeld
  clear hHeld
  refine NoPanic.normal ?_
  go_wp2_with fail
  refine leaves_cons (f := 22) (args := #[.pointer (some ⟨w.heap.size + 1 + 1, 0, none⟩), .pointer (some ⟨w.heap.size + 1 + 1 + 1, 0, none⟩)]) (by simp) (by simp [go_sem]) ?_
  refine (sp_idle _ _ _).mono ?_
  rintro e u' w'' ⟨rfl, rfl, rfl⟩
  simp [Leaves, settle, results, Tryd.results10, go_sem, k0, k1]
  exact hBs.out.trans (hfin.out.mono (by omega))
end Go.Proofs.YtplkcmlpomjojaaDoor
-- Al
namespace Go.Proofs.YtplkcmlpomjojaaDoor
open Go Go.RowKit
set_option maxHeartbeats 8000000
set_option linter.unusedSimpArgs false
set_option linter.unusedVariables false
set_option maxRecDepth 100000

/-- A whole array out of the midst of a block, in one step. -/
theorem at_load_mid {P : Program} {ops : Array Oper} {rest : List Oper} {a : Act} {w : World} {Q : Exit → Act → World → Prop} {d : Option Tmp} {x : Operand} {ty tt : TypeId} {ps : String} {af : Array Edge} {g o : Nat} (cs : List Value) {de : TypeDesc}
    (hc : w.rangeAt g o cs) (hu : P.underlying tt = some de) (hd : de.isRow = true) (hi : (P.info? tt).map (·.size) = some cs.length) (hx : a.eval x = .pointer (some ⟨g, o, none⟩))
    (h : wpList P ops Q rest (a.put d (.agg cs.toArray)) w) : wpList P ops Q ({ dst := d, op := .load tt x, type := ty, pos := ps, after := af, guard := none } :: rest) a w :=
  wpList_load_mid rfl tt x rfl g o hx cs de hc hu hd hi h
def alikeB (p q : List Int) : Bool := decide (p.take 64 = q.take 64) && (decide (p.getD 64 0 = q.getD 64 0) && (decide (p.getD 65 0 = q.getD 65 0) && decide (p.getD 66 0 = q.getD 66 0)))
theorem al_alike (p q : List Int) (hlp : p.length = 69) (hlq : q.length = 69) (w : World) :
    Calls Tryd.prog 11 #[.agg (ints p), .agg (ints q)] w fun e w' => e = .returned (.bool (alikeB p q)) ∧ Below w.heap.size w w' := by
  have hBW : Below w.heap.size w ((w.alloc (.cells (ints p) 24)).alloc (.cells (ints q) 24)) := ((Below.refl _ _).alloc (Nat.le_refl _) _).alloc (by simp) _
  have hr0 : PosAt p w.heap.size ((w.alloc (.cells (ints p) 24)).alloc (.cells (ints q) 24)) := heap_alloc2_old w _ _
  have hr1 : PosAt q (w.heap.size + 1) ((w.alloc (.cells (ints p) 24)).alloc (.cells (ints q) 24)) := heap_alloc2_new w _ _
  obtain ⟨i0, hi, hz0, hz1, hz2⟩ := info_parts (show (Tryd.prog.info? 3).map (fun i => (i.zero, i.size, i.bytes)) = some (some (.int .i64 0), 1, 8) by kernel_rfl)
  have hEq : ∀ V, (Op.equalIn 10000 22 (.agg (brdV p).toArray) (.agg (brdV q).toArray)).run Tryd.prog V = .ok (decide (p.take 64 = q.take 64)) V := fun V => eq_ints Tryd.underlying22 hi (by kernel_rfl) Tryd.underlying3 (p.take 64) (q.take 64) (by simp [hlp]) (by simp [hlq]) V
  have hg0 := lay (range64 hr0)
  have hg1 := lay (range64 hr1)
  have p4 := hr0.cell 64 (by omega)
  have p5 := hr0.cell 65 (by omega)
  have p6 := hr0.cell 66 (by omega)
  have q4 := hr1.cell 64 (by omega)
  have q5 := hr1.cell 65 (by omega)
  have q6 := hr1.cell 66 (by omega)
  have hip := lay (info64 p hlp)
  have hiq := lay (info64 q hlq)
  have hBs := lay hBW
  have hR := lay (show alikeB p q = (decide (p.take 64 = q.take 64) && (decide (p.getD 64 0 = q.getD 64 0) && (decide (p.getD 65 0 = q.getD 65 0) && decide (p.getD 66 0 = q.getD 66 0)))) from rfl)
  clear hr0 hr1 hBW hlp hlq
  generalize alikeB p q = res at *
  generalize p.getD 64 0 = a4 at *
  generalize p.getD 65 0 = a5 at *
  generalize p.getD 66 0 = a6 at *
  generalize q.getD 64 0 = b4 at *
  generalize q.getD 65 0 = b5 at *
  generalize q.getD 66 0 = b6 at *
  generalize decide (p.take 64 = q.take 64) = e3 at *
  have e4 : Shut (∃ x : Bool, (a4 == b4) = x ∧ decide (a4 = b4) = x) := ⟨_, rfl, by rw [Bool.eq_iff_iff]; simp⟩
  have e5 : Shut (∃ x : Bool, (a5 == b5) = x ∧ decide (a5 = b5) = x) := ⟨_, rfl, by rw [Bool.eq_iff_iff]; simp⟩
  have e6 : Shut (∃ x : Bool, (a6 == b6) = x ∧ decide (a6 = b6) = x) := ⟨_, rfl, by rw [Bool.eq_iff_iff]; simp⟩
  obtain ⟨x4, f4, g4⟩ := e4.out
  obtain ⟨x5, f5, g5⟩ := e5.out
  obtain ⟨x6, f6, g6⟩ := e6.out
  have hR2 : Shut (res = (e3 && (x4 && (x5 && x6)))) := by rw [hR.out, g4, g5, g6]; rfl
  clear e4 e5 e6 g4 g5 g6 hR
  cases e3 <;> cases x4 <;> cases x5 <;> cases x6
  all_goals (
    go_enter Tryd.func11, Tryd.ntmps11
    go_wp2_with (first
      | ((with_reducible refine at_load_mid (brdV p) hg0.out Tryd.underlying22 rfl ?_ ?_ ?_); (exact hip.out); rfl)
      | ((with_reducible refine at_load_mid (brdV q) hg1.out Tryd.underlying22 rfl ?_ ?_ ?_); (exact hiq.out); rfl))
    go_ret
    exact ⟨by rw [hR2.out]; rfl, hBs.out⟩)
end Go.Proofs.YtplkcmlpomjojaaDoor
-- Am
namespace Go.Proofs.YtplkcmlpomjojaaDoor
open Go Go.RowKit
set_option maxHeartbeats 8000000
set_option linter.unusedSimpArgs false
set_option linter.unusedVariables false
set_option maxRecDepth 100000

theorem cas_all : ∀ a < 16, ∀ b < 16, casText ((a : Nat) : Int) = casText ((b : Nat) : Int) → a = b := by decide +kernel
theorem cas_inj (a b : Int) (a0 : 0 ≤ a) (a1 : a ≤ 15) (b0 : 0 ≤ b) (b1 : b ≤ 15) (h : casText a = casText b) : a = b := by
  obtain ⟨x, rfl⟩ := Int.eq_ofNat_of_zero_le a0
  obtain ⟨y, rfl⟩ := Int.eq_ofNat_of_zero_le b0
  have := cas_all x (by omega) y (by omega) h
  omega
theorem tx_iff (p q : List Int) (hp : Pos p) (hq : Pos q) : txB p = txB q ↔ p.take 64 = q.take 64 := by
  constructor
  · intro h
    have h1 : txBoard p = txBoard q := by
      have := congrArg (fun s => s.data.toList) h
      simpa [txB] using this
    have h2 := txBoard_inj p q (fun i hi => ⟨hp.lo i hi, hp.hi i hi⟩) (fun i hi => ⟨hq.lo i hi, hq.hi i hi⟩) h1
    apply List.ext_getElem (by simp [hp.len, hq.len])
    intro i i1 i2
    have i3 : i < 64 := by simp at i1; omega
    have := h2 i i3
    simp only [List.getElem_take]
    simpa [List.getD, show i < p.length by rw [hp.len]; omega, show i < q.length by rw [hq.len]; omega] using this
  · intro h
    have h2 : ∀ i, i < 64 → p.getD i 0 = q.getD i 0 := fun i hi => by rw [← take_getD p i hi, h, take_getD q i hi]
    unfold txB txBoard
    rw [txRank_congr p q h2 8 (Nat.le_refl _)]
theorem same_alike (p q : List Int) (tp tq : Nat) (hp : Sound p tp) (hq : Sound q tq) : sameB p q tp tq = alikeB p q := by
  unfold sameB alikeB
  have h1 : decide (txB p = txB q) = decide (p.take 64 = q.take 64) := by rw [Bool.eq_iff_iff, decide_eq_true_eq, decide_eq_true_eq]; exact tx_iff p q hp.pos hq.pos
  have h2 : decide (tp = tq) = decide (p.getD 64 0 = q.getD 64 0) := by rw [Bool.eq_iff_iff, decide_eq_true_eq, decide_eq_true_eq, hp.turn, hq.turn]; omega
  have h3 : decide (casText (p.getD 65 0) = casText (q.getD 65 0)) = decide (p.getD 65 0 = q.getD 65 0) := by
    rw [Bool.eq_iff_iff, decide_eq_true_eq, decide_eq_true_eq]
    exact ⟨cas_inj _ _ hp.ca0 hp.ca1 hq.ca0 hq.ca1, fun h => by rw [h]⟩
  rw [h1, h2, h3]
/-- A position with other numbers. -/
def numB (p : List Int) (a b : Int) : List Int := (p.set 67 a).set 68 b
theorem numB_far (p : List Int) (a b : Int) (i : Nat) (h : i < 67) : (numB p a b).getD i 0 = p.getD i 0 := by
  unfold numB
  rw [set_far _ _ _ _ (by omega), set_far _ _ _ _ (by omega)]
theorem cnt_congr (p q : List Int) (k : Int) (h : ∀ i, i < 64 → p.getD i 0 = q.getD i 0) : cnt p k 64 = cnt q k 64 := by
  unfold cnt
  congr 1
  apply List.filter_congr
  intro i hi
  rw [h i (List.mem_range.1 hi)]
theorem numB_sound (p : List Int) (tp : Nat) (a b : Int) (hp : Sound p tp) (ha : 0 ≤ a) (hb : 1 ≤ b) : Sound (numB p a b) tp ∧ (numB p a b).getD 67 0 = a ∧ (numB p a b).getD 68 0 = b := by
  have hl := hp.pos.len
  have h67 : (numB p a b).getD 67 0 = a := by unfold numB; rw [set_far _ _ _ _ (by omega), getD_set, if_pos ⟨rfl, by omega⟩]
  have h68 : (numB p a b).getD 68 0 = b := by unfold numB; rw [getD_set, if_pos ⟨rfl, by simp [hl]⟩]
  refine ⟨⟨⟨by simp [numB, hl], fun s hs => ?_, fun s hs => ?_⟩, ?_, hp.one, ?_, ?_, ?_, ?_, ?_, ?_, ?_⟩, h67, h68⟩
  · rw [numB_far _ _ _ _ (by omega)]; exact hp.pos.lo s hs
  · rw [numB_far _ _ _ _ (by omega)]; exact hp.pos.hi s hs
  · rw [numB_far _ _ _ _ (by omega)]; exact hp.turn
  · rw [numB_far _ _ _ _ (by omega)]; exact hp.ca0
  · rw [numB_far _ _ _ _ (by omega)]; exact hp.ca1
  · rw [numB_far _ _ _ _ (by omega)]; exact hp.ep
  · rw [h67]; exact ha
  · rw [h68]; exact hb
  · rw [cnt_congr _ p 1 (fun i hi => numB_far p a b i (by omega))]; exact hp.n1
  · rw [cnt_congr _ p 7 (fun i hi => numB_far p a b i (by omega))]; exact hp.n7
theorem numB_same (p : List Int) (tp : Nat) (a b : Int) (hp : Sound p tp) (ha : 0 ≤ a) (hb : 1 ≤ b) : sameB p (numB p a b) tp tp = true := by
  rw [same_alike p _ tp tp hp (numB_sound p tp a b hp ha hb).1]
  unfold alikeB
  have e : (numB p a b).take 64 = p.take 64 := by
    unfold numB
    rw [List.take_set_of_le (by omega), List.take_set_of_le (by omega)]
  rw [e, numB_far _ _ _ _ (by omega), numB_far _ _ _ _ (by omega), numB_far _ _ _ _ (by omega)]
  simp
theorem am_law (p q : List Int) (hlp : p.length = 69) (hlq : q.length = 69) (w : World) (hfi : IntTab w 5 .u64 (tabZ bbFilesL)) (hra : IntTab w 4 .u64 (tabZ bbRanksL)) (hdi : IntTab w 2 .u64 (tabZ bbDiagonalsL)) (han : IntTab w 3 .u64 (tabZ bbAntiDiagonalsL)) (hkn : IntTab w 0 .u64 (tabZ bbKnightMovesL)) (hki : IntTab w 1 .u64 (tabZ bbKingMovesL))
    (hwf : IntTab w 7 .u8 wPieceL) (hbf : IntTab w 8 .u8 bPieceL) (hA : IntSl w 6 .i8 allL) :
    Calls Tryd.prog 5 #[.agg (ints p), .agg (ints q)] w fun e w' => e = .returned (.bool true) ∧ Below w.heap.size w w' := by
  have hT : Tabs w := ⟨hki, hkn, hdi, han, hfi, hra⟩
  clear hfi hra hdi han hkn hki
  have hBW : Below w.heap.size w ((w.alloc (.cells (ints p) 24)).alloc (.cells (ints q) 24)) := ((Below.refl _ _).alloc (Nat.le_refl _) _).alloc (by simp) _
  have hr0 : PosAt p w.heap.size ((w.alloc (.cells (ints p) 24)).alloc (.cells (ints q) 24)) := heap_alloc2_old w _ _
  have hr1 : PosAt q (w.heap.size + 1) ((w.alloc (.cells (ints p) 24)).alloc (.cells (ints q) 24)) := heap_alloc2_new w _ _
  have hsz : ((w.alloc (.cells (ints p) 24)).alloc (.cells (ints q) 24)).heap.size = w.heap.size + 2 := by simp
  have hrp : ((w.alloc (.cells (ints p) 24)).alloc (.cells (ints q) 24)).heap[w.heap.size]? = some (.cells (ints p) 24 (0, 0)) := hr0
  have hrq : ((w.alloc (.cells (ints p) 24)).alloc (.cells (ints q) 24)).heap[w.heap.size + 1]? = some (.cells (ints q) 24 (0, 0)) := hr1
  have hRp := lay (fun W => rt_right p hlp W)
  have hRq := lay (fun W => rt_right q hlq W)
  have hG : Shut (∀ V, Below w.heap.size w V → Tabs V ∧ IntSl V 6 .i8 allL ∧ IntTab V 7 .u8 wPieceL ∧ IntTab V 8 .u8 bPieceL) := fun V hV => ⟨hT.below hV (Nat.le_refl _), hA.below hV, hwf.below hV, hbf.below hV⟩
  have hBs := lay hBW
  have hr0s := lay hr0
  have hr1s := lay hr1
  clear hT hA hwf hbf hBW hr0 hr1
  cases hap : askedB p with
  | false =>
    have has := lay hap
    clear hap
    go_enter Tryd.func5, Tryd.ntmps5
    go_wp2_with (first
      | ((with_reducible refine at_load_row hrp Tryd.underlying24 rfl ?_ ?_ ?_); (rw [ints_size, hlp]; kernel_rfl); rfl)
      | (go_at_call 6; refine (hRp.out _).mono ?_; rintro e1 w1 ⟨rfl, hb1⟩; rw [has.out]))
    go_ret
    exact ⟨rfl, hBs.out.trans (hb1.mono hBs.out.size)⟩
  | true =>
    obtain ⟨tp, hsp⟩ := valid_sound p hlp (askedB_valid hap)
    have p67 := askedB_hf hap
    have p68 := askedB_fu hap
    have haps := lay hap
    clear hap
    cases haq : askedB q with
    | false =>
      have has := lay haq
      clear haq
      go_enter Tryd.func5, Tryd.ntmps5
      go_wp2_with (first
        | ((with_reducible refine at_load_row hrp Tryd.underlying24 rfl ?_ ?_ ?_); (rw [ints_size, hlp]; kernel_rfl); rfl))
      refine (hRp.out _).mono ?_
      rintro e1 w1 ⟨rfl, hb1⟩
      rw [haps.out]
      have hrq1 : w1.heap[w.heap.size + 1]? = some (.cells (ints q) 24 (0, 0)) := (hb1.block _ (by omega)).trans hrq
      have hB1 := lay (hBs.out.trans (hb1.mono hBs.out.size))
      clear hb1 hrp hrq
      go_wp2_with (first
        | ((with_reducible refine at_load_rowG hrq1 Tryd.underlying24 rfl ?_ ?_ ?_ ?_); (rw [ints_size, hlq]; kernel_rfl); rfl; rfl)
        | (go_at_call 6; refine (hRq.out _).mono ?_; rintro e2 w2 ⟨rfl, hb2⟩; rw [has.out]))
      go_ret
      exact ⟨rfl, hB1.out.trans (hb2.mono hB1.out.size)⟩
    | true =>
      obtain ⟨tq, hsq⟩ := valid_sound q hlq (askedB_valid haq)
      have q67 := askedB_hf haq
      have q68 := askedB_fu haq
      have haqs := lay haq
      have hq0 := hsq.hf
      have hq1 := hsq.fu
      obtain ⟨hsr, r67, r68⟩ := numB_sound p tp (q.getD 67 0) (q.getD 68 0) hsp hq0 hq1
      have hI1 : Shut (∀ V, Below w.heap.size w V → Calls Tryd.prog 10 #[.agg (ints p), .agg (ints q)] V fun e w' => e = .returned (.tuple #[.bool (alikeB p q), .bool true]) ∧ Below V.heap.size V w') := fun V hV => by
        have h := hG.out V hV
        rw [← same_alike p q tp tq hsp hsq]
        exact sp_impl p q tp tq hsp hsq (by omega) (by omega) (by omega) (by omega) V h.1 h.2.1 h.2.2.1 h.2.2.2
      have hI2 : Shut (∀ V, Below w.heap.size w V → Calls Tryd.prog 10 #[.agg (ints p), .agg (ints (numB p (q.getD 67 0) (q.getD 68 0)))] V fun e w' => e = .returned (.tuple #[.bool true, .bool true]) ∧ Below V.heap.size V w') := fun V hV => by
        have h := hG.out V hV
        have hh := sp_impl p (numB p (q.getD 67 0) (q.getD 68 0)) tp tp hsp hsr (by omega) (by omega) (by rw [r67]; omega) (by rw [r68]; omega) V h.1 h.2.1 h.2.2.1 h.2.2.2
        rw [numB_same p tp (q.getD 67 0) (q.getD 68 0) hsp hq0 hq1] at hh
        exact hh
      have hAl := lay (fun V => al_alike p q hlp hlq V)
      have c67 := lay (fun (V : World) (hV : PosAt q (w.heap.size + 1) V) => hV.cell 67 (by omega))
      have c68 := lay (fun (V : World) (hV : PosAt q (w.heap.size + 1) V) => hV.cell 68 (by omega))
      have hN : Shut (numB p (q.getD 67 0) (q.getD 68 0) = (p.set 67 (q.getD 67 0)).set 68 (q.getD 68 0)) := by rfl
      clear haq hsp hsq hsr p67 p68 q67 q68 r67 r68
      generalize alikeB p q = al at *
      generalize q.getD 67 0 = n67 at *
      generalize q.getD 68 0 = n68 at *
      generalize numB p n67 n68 = r at *
      go_enter Tryd.func5, Tryd.ntmps5
      go_wp2_with (first
        | ((with_reducible refine at_load_row hrp Tryd.underlying24 rfl ?_ ?_ ?_); (rw [ints_size, hlp]; kernel_rfl); rfl))
      refine (hRp.out _).mono ?_
      rintro e1 w1 ⟨rfl, hb1⟩
      rw [haps.out]
      have hrp1 : w1.heap[w.heap.size]? = some (.cells (ints p) 24 (0, 0)) := (hb1.block _ (by omega)).trans hrp
      have hrq1 : w1.heap[w.heap.size + 1]? = some (.cells (ints q) 24 (0, 0)) := (hb1.block _ (by omega)).trans hrq
      have hB1 := lay (hBs.out.trans (hb1.mono hBs.out.size))
      have hz1 : w.heap.size + 2 ≤ w1.heap.size := by have := hb1.size; omega
      clear hb1 hrp hrq
      go_wp2_with (first
        | ((with_reducible refine at_load_rowG hrq1 Tryd.underlying24 rfl ?_ ?_ ?_ ?_); (rw [ints_size, hlq]; kernel_rfl); rfl; rfl))
      refine (hRq.out _).mono ?_
      rintro e2 w2 ⟨rfl, hb2⟩
      rw [haqs.out]
      have hrp2 : w2.heap[w.heap.size]? = some (.cells (ints p) 24 (0, 0)) := (hb2.block _ (by omega)).trans hrp1
      have hrq2 : w2.heap[w.heap.size + 1]? = some (.cells (ints q) 24 (0, 0)) := (hb2.block _ (by omega)).trans hrq1
      have hB2 := lay (hB1.out.trans (hb2.mono hB1.out.size))
      have hz2 : w.heap.size + 2 ≤ w2.heap.size := by have := hb2.size; omega
      clear hb2 hrp1 hrq1 hz1
      go_wp2_with (first
        | ((with_reducible refine at_load_row hrp2 Tryd.underlying24 rfl ?_ ?_ ?_); (rw [ints_size, hlp]; kernel_rfl); rfl)
        | ((with_reducible refine at_load_row hrq2 Tryd.underlying24 rfl ?_ ?_ ?_); (rw [ints_size, hlq]; kernel_rfl); rfl))
      refine (hI1.out _ hB2.out).mono ?_
      rintro e3 w3 ⟨rfl, hb3⟩
      have hrp3 : w3.heap[w.heap.size]? = some (.cells (ints p) 24 (0, 0)) := (hb3.block _ (by omega)).trans hrp2
      have hrq3 : w3.heap[w.heap.size + 1]? = some (.cells (ints q) 24 (0, 0)) := (hb3.block _ (by omega)).trans hrq2
      have hB3 := lay (hB2.out.trans (hb3.mono hB2.out.size))
      have hz3 : w.heap.size + 2 ≤ w3.heap.size := by have := hb3.size; omega
      clear hb3 hrp2 hrq2 hz2
      go_upto_region 5 with (first
        | ((with_reducible refine at_load_row hrp3 Tryd.underlying24 rfl ?_ ?_ ?_); (rw [ints_size, hlp]; kernel_rfl); rfl)
        | ((with_reducible refine at_new_row (ints p) ?_ ?_ ?_ ?_ ?_ ?_); (rw [ints_size, hlp]; kernel_rfl); (rw [ints_size, hlp]; kernel_rfl); exact ints_one _; rfl; rfl; intro W4 rG4 hC4))
      have k67 := c67.out W4 ((hC4.block (w.heap.size + 1) (by omega)).trans hrq3)
      have k68 := c68.out W4 ((hC4.block (w.heap.size + 1) (by omega)).trans hrq3)
      have g67 := PosAt.cell (p := p) (g := w3.heap.size) rG4 67 (by omega)
      have g68 := PosAt.cell (p := p) (g := w3.heap.size) rG4 68 (by omega)
      have f67 := frozen_of_row W4 w3.heap.size 67 _ _ rG4
      have f68 := frozen_of_row W4 w3.heap.size 68 _ _ rG4
      have ne1 : w.heap.size + 1 ≠ w3.heap.size := by omega
      have hzz := hC4.size
      have rG4s := lay rG4
      have hC4s := lay hC4
      clear rG4 hC4
      go_upto_region 7 with (fail)
      have rr : PosAt r w3.heap.size ((W4.setCell ⟨w3.heap.size, 67, none⟩ (.int .i64 n67)).setCell ⟨w3.heap.size, 68, none⟩ (.int .i64 n68)) := by
        rw [hN.out]
        exact row_set (row_set rG4s.out 67 n67) 68 n68
      have hrp4 : ((W4.setCell ⟨w3.heap.size, 67, none⟩ (.int .i64 n67)).setCell ⟨w3.heap.size, 68, none⟩ (.int .i64 n68)).heap[w.heap.size]? = some (.cells (ints p) 24 (0, 0)) := by
        rw [heap_setCell_other _ _ _ _ (by show w.heap.size ≠ w3.heap.size; omega), heap_setCell_other _ _ _ _ (by show w.heap.size ≠ w3.heap.size; omega)]
        exact (hC4s.out.block _ (by omega)).trans hrp3
      have hrq4 : ((W4.setCell ⟨w3.heap.size, 67, none⟩ (.int .i64 n67)).setCell ⟨w3.heap.size, 68, none⟩ (.int .i64 n68)).heap[w.heap.size + 1]? = some (.cells (ints q) 24 (0, 0)) := by
        rw [heap_setCell_other _ _ _ _ (by show w.heap.size + 1 ≠ w3.heap.size; omega), heap_setCell_other _ _ _ _ (by show w.heap.size + 1 ≠ w3.heap.size; omega)]
        exact (hC4s.out.block _ (by omega)).trans hrq3
      have hB4 : Shut (Below w.heap.size w ((W4.setCell ⟨w3.heap.size, 67, none⟩ (.int .i64 n67)).setCell ⟨w3.heap.size, 68, none⟩ (.int .i64 n68))) := ((hB3.out.trans (hC4s.out.mono hB3.out.size)).setCell (p := ⟨w3.heap.size, 67, none⟩) (by show w.heap.size ≤ w3.heap.size; omega) _).setCell (p := ⟨w3.heap.size, 68, none⟩) (by show w.heap.size ≤ w3.heap.size; omega) _
      have hz4 : w3.heap.size < ((W4.setCell ⟨w3.heap.size, 67, none⟩ (.int .i64 n67)).setCell ⟨w3.heap.size, 68, none⟩ (.int .i64 n68)).heap.size := rr.lt
      clear k67 k68 g67 g68 f67 f68 rG4s hC4s hrp3 hrq3 hzz
      generalize ((W4.setCell ⟨w3.heap.size, 67, none⟩ (.int .i64 n67)).setCell ⟨w3.heap.size, 68, none⟩ (.int .i64 n68)) = W5 at *
      have hrr : W5.heap[w3.heap.size]? = some (.cells (ints r) 24 (0, 0)) := rr
      have hlr : r.length = 69 := by have := hN.out; rw [this]; simp [hlp]
      clear rr
      go_wp2_with (first
        | ((with_reducible refine at_load_row hrp4 Tryd.underlying24 rfl ?_ ?_ ?_); (rw [ints_size, hlp]; kernel_rfl); rfl)
        | ((with_reducible refine at_load_row hrr Tryd.underlying24 rfl ?_ ?_ ?_); (rw [ints_size, hlr]; kernel_rfl); rfl))
      refine (hI2.out _ hB4.out).mono ?_
      rintro e6 w6 ⟨rfl, hb6⟩
      have hrp6 : w6.heap[w.heap.size]? = some (.cells (ints p) 24 (0, 0)) := (hb6.block _ (by omega)).trans hrp4
      have hrq6 : w6.heap[w.heap.size + 1]? = some (.cells (ints q) 24 (0, 0)) := (hb6.block _ (by omega)).trans hrq4
      have hB6 := lay (hB4.out.trans (hb6.mono hB4.out.size))
      clear hb6 hrp4 hrq4 hrr
      go_wp2_with (first
        | ((with_reducible refine at_load_rowG hrp6 Tryd.underlying24 rfl ?_ ?_ ?_ ?_); (rw [ints_size, hlp]; kernel_rfl); rfl; rfl)
        | ((with_reducible refine at_load_rowG hrq6 Tryd.underlying24 rfl ?_ ?_ ?_ ?_); (rw [ints_size, hlq]; kernel_rfl); rfl; rfl)
        | (go_at_call 11; refine (hAl.out _).mono ?_; rintro e7 w7 ⟨rfl, hb7⟩))
      go_ret
      exact ⟨rfl, hB6.out.trans (hb7.mono hB6.out.size)⟩
end Go.Proofs.YtplkcmlpomjojaaDoor
