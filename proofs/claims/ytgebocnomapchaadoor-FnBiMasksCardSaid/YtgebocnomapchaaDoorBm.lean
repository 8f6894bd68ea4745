/- FnBiMasks: the walk of the law. -/
import Derived.Test.YtgebocnomapchaaDoorBi
import Derived.Test.YtgebocnomapchaaDoorMk
import Derived.Deep.AppendLies
namespace Go.Proofs.YtgebocnomapchaaDoor
open Go Go.RowKit
set_option maxHeartbeats 4000000
set_option linter.unusedSimpArgs false
set_option linter.unusedVariables false
set_option maxRecDepth 100000

/-- Several lists of integers that the call owns, each in a block of its own. -/
structure OwnL (w : World) (base : Nat) (ps : List (Value × List Int)) : Prop where
  each : ∀ (i : Nat) (p : Value × List Int), ps[i]? = some p → ownInts w base p.1 p.2
  apart : ∀ i j : Nat, i ≠ j → ∀ p q : Value × List Int, ps[i]? = some p → ps[j]? = some q → ∀ k, p.1.ownBlock = some k → q.1.ownBlock ≠ some k
theorem OwnL.alloc {w : World} {base : Nat} {ps : List (Value × List Int)} (h : OwnL w base ps) (o : Obj) : OwnL (w.alloc o) base ps :=
  ⟨fun i p hp => (h.each i p hp).alloc o, h.apart⟩
theorem OwnL.append {w w' : World} {base : Nat} {ps : List (Value × List Int)} (h : OwnL w base ps) (i : Nat) (p : Value × List Int) (hp : ps[i]? = some p) (v : Value) (l : List Int)
    (hg : w.grownBy w' p.1.ownBlock) (ho : ownInts w' base v l) (hv : v.ownBlock = p.1.ownBlock ∨ ∃ g, v.ownBlock = some g ∧ w.heap.size ≤ g) : OwnL w' base (ps.set i (v, l)) := by
  have hlt : ∀ (j : Nat) (q : Value × List Int), ps[j]? = some q → ∀ k, q.1.ownBlock = some k → k < w.heap.size := fun j q hq k hk => ((h.each j q hq).lt k hk).2
  refine ⟨fun j q hq => ?_, fun a b hab x y hx hy k hk => ?_⟩
  · rw [List.getElem?_set] at hq
    by_cases e : i = j
    · rw [if_pos e] at hq
      split at hq
      · cases hq; exact ho
      · cases hq
    · rw [if_neg e] at hq
      refine (h.each j q hq).kept hg ?_
      cases hb : q.1.ownBlock with
      | none => exact Or.inl rfl
      | some k => exact Or.inr (fun e2 => h.apart j i (fun e3 => e e3.symm) q p hq hp k hb e2.symm)
  · rw [List.getElem?_set] at hx hy
    by_cases ea : i = a
    · have eb : i ≠ b := fun e => hab (ea.symm.trans e)
      rw [if_pos ea] at hx
      rw [if_neg eb] at hy
      split at hx
      · cases hx
        intro hk2
        rcases hv with hv | ⟨g, hv, hgt⟩
        · exact h.apart i b eb p y hp hy k (hv ▸ hk) hk2
        · have := hlt b y hy k hk2
          have : g = k := by simpa [hv] using hk
          omega
      · cases hx
    · rw [if_neg ea] at hx
      by_cases eb : i = b
      · rw [if_pos eb] at hy
        split at hy
        · cases hy
          intro hk2
          rcases hv with hv | ⟨g, hv, hgt⟩
          · exact h.apart a i (fun e => ea e.symm) x p hx hp k hk (hv ▸ hk2)
          · have := hlt a x hx k hk
            have : g = k := by simpa [hv] using hk2
            omega
        · cases hy
      · rw [if_neg eb] at hy
        exact h.apart a b hab x y hx hy k hk

theorem own_below {w w' : World} {base : Nat} {e : TypeId} {size : Nat} {v : Value} {n : Nat} {xs : List Value} (h : w.ownsRow base e size v n xs) (hb : Below w.heap.size w w') : w'.ownsRow base e size v n xs := by
  obtain ⟨h1, h2 | ⟨g, cap, cur, a, b, c, d⟩⟩ := h
  · exact ⟨h1, Or.inl h2⟩
  · exact ⟨h1, Or.inr ⟨g, cap, cur, a, b, (hb.block g (Array.getElem?_eq_some_iff.1 c).1).trans c, d⟩⟩
theorem at_append {ops : Array Oper} {rest : List Oper} {a : Act} {w : World} {Q : Exit → Act → World → Prop} {d : Option Tmp} {x y : Operand} {ty : TypeId} {ps : String} {af : Array Edge} {z : Int}
    (base : Nat) (pl : List (Value × List Int)) (i : Nat) (p : Value × List Int) (hO : OwnL w base pl) (hp : pl[i]? = some p) (hlen : p.2.length ≤ 1000) (hbase : base ≤ w.heap.size)
    (hx : a.eval x = p.1) (hy : a.eval y = .slice (some ⟨w.heap.size, 0, none⟩) 1 1)
    (h : ∀ v' w', OwnL w' base (pl.set i (v', p.2 ++ [z])) → Below base w w' → wpList Tryd.prog ops Q rest (a.put d v') w') :
    wpList Tryd.prog ops Q ({ dst := d, op := .call { callee := .builtin .append, args := #[x, y], argTypes := #[31, 31] }, type := ty, pos := ps, after := af, guard := none } :: rest) a (w.alloc (.cells #[.int .i64 z] 3)) := by
  obtain ⟨i0, hi, hz0, hz1, hz2⟩ := info_parts po_info1
  refine wpList_append_lies _ rfl x y 31 rfl base 3 i0 (.int .i64 0) 1 8 Tryd.underlying31 hi hz0 hz1 hz2 rfl (by decide) p.1 p.2.length (p.2.map (Value.int .i64)) hx ((hO.each i p hp).alloc _)
    ⟨w.heap.size, 0, none⟩ 1 1 [.int .i64 z] hy rfl ?_ ?_ (by decide) ?_ ?_ ?_ (w.heap.size + 1) (by simp) ?_
  · exact new_cells w [z] _ _ rfl
  · intro u hu; simp at hu; subst hu; rfl
  · unfold maxLen; omega
  · omega
  · simp; omega
  · intro g cap w' hown hgrow hg _
    have hO' := hO.alloc (.cells #[.int .i64 z] 3)
    have hw : ownInts w' base (.slice (some ⟨g, 0, none⟩) (p.2.length + 1) cap) (p.2 ++ [z]) := by
      unfold ownInts
      rw [List.length_append, List.map_append]
      exact hown
    refine h _ _ (hO'.append i p hp _ _ hgrow hw ?_) ?_
    · rcases hg with hg | hg
      · exact Or.inl hg.symm
      · exact Or.inr ⟨g, rfl, by simp; omega⟩
    · exact ((Below.refl _ _).alloc hbase _).grown hgrow (by simp; omega) (own_ge (hO.each i p hp))

/-- The squares below k that meet a test. -/
def filt (c : Nat → Bool) (k : Nat) : List Int := ((List.range k).filter c).map Int.ofNat
theorem filt_le (c : Nat → Bool) (k : Nat) : (filt c k).length ≤ k := by
  have := List.length_filter_le c (List.range k)
  simpa [filt] using this
theorem filt_yes (c : Nat → Bool) (k : Nat) (h : c k = true) : filt c (k + 1) = filt c k ++ [(k : Int)] := by
  simp [filt, List.range_succ, List.filter_append, h]
theorem filt_no (c : Nat → Bool) (k : Nat) (h : c k = false) : filt c (k + 1) = filt c k := by
  simp [filt, List.range_succ, List.filter_append, h]
theorem filt_step (c : Nat → Bool) (k : Nat) : filt c (k + 1) = filt c k ++ (if c k then [(k : Int)] else []) := by
  cases h : c k with
  | true => rw [filt_yes c k h]; rfl
  | false => rw [filt_no c k h]; simp
theorem filt_range (c : Nat → Bool) (k : Nat) (hk : k ≤ 64) : ∀ z ∈ filt c k, 0 ≤ z ∧ z ≤ 63 := by
  intro z hz
  unfold filt at hz
  obtain ⟨i, hi, rfl⟩ := List.mem_map.1 hz
  have := List.mem_range.1 (List.mem_filter.1 hi).1
  show 0 ≤ (i : Int) ∧ (i : Int) ≤ 63
  omega
def cDia (s i : Nat) : Bool := ((i : Int) % 8 - (i : Int) / 8 == (s : Int) % 8 - (s : Int) / 8)
def cAnt (s i : Nat) : Bool := ((i : Int) % 8 + (i : Int) / 8 == (s : Int) % 8 + (s : Int) / 8)
def cFil (s i : Nat) : Bool := ((i : Int) % 8 == (s : Int) % 8)
def cRan (s i : Nat) : Bool := ((i : Int) / 8 == (s : Int) / 8)
theorem bm_king : ∀ s < 64, tabB bbKingMovesL s = biReach 0#64 1 s := by decide +kernel
theorem bm_knight : ∀ s < 64, tabB bbKnightMovesL s = biReach 0#64 5 s := by decide +kernel
theorem bm_dia : ∀ s < 64, tabB bbDiagonalsL s = biOf (filt (cDia s) 64) := by decide +kernel
theorem bm_ant : ∀ s < 64, tabB bbAntiDiagonalsL s = biOf (filt (cAnt s) 64) := by decide +kernel
theorem bm_fil : ∀ s < 64, tabB bbFilesL (s % 8) = biOf (filt (cFil s) 64) := by decide +kernel
theorem bm_ran : ∀ s < 64, tabB bbRanksL (s / 8) = biOf (filt (cRan s) 64) := by decide +kernel
theorem bm_one (s : Nat) : sqBit s = biOf [(s : Int)] := by simp [biOf]

theorem bm_law (a : Int) (a0 : 0 ≤ a) (a1 : a ≤ 255) (w : World)
    (gk : IntTab w 3 .u64 (tabZ bbKingMovesL)) (gn : IntTab w 4 .u64 (tabZ bbKnightMovesL))
    (gd : IntTab w 5 .u64 (tabZ bbDiagonalsL)) (ga : IntTab w 6 .u64 (tabZ bbAntiDiagonalsL))
    (gf : IntTab w 7 .u64 (tabZ bbFilesL)) (gr : IntTab w 8 .u64 (tabZ bbRanksL)) :
    Calls Tryd.prog 5 #[.int .u8 a] w fun e w' => e = .returned (.bool true) ∧ Below w.heap.size w w' := by
  obtain ⟨s, hs⟩ := Int.eq_ofNat_of_zero_le (show 0 ≤ a % 64 by omega)
  have hs64 : s < 64 := by omega
  go_enter Tryd.func5, Tryd.ntmps5
  go_wp2_with (first | (go_at_call 12; refine (po_file _ _ (by omega) (by omega)).mono ?_; rintro e w1 ⟨rfl, rfl⟩) | (go_at_call 13; refine (po_rank _ _ (by omega) (by omega)).mono ?_; rintro e w1 ⟨rfl, rfl⟩))
  go_loopw [6, 7, 8, 9, 10] (fun v0 v1 v2 v3 i wr => ∃ k : Nat, k ≤ 64 ∧ i = .int .i64 (k : Int) ∧ OwnL wr w.heap.size [(v0, filt (cDia s) k), (v1, filt (cAnt s) k), (v2, filt (cFil s) k), (v3, filt (cRan s) k)] ∧ Below w.heap.size w wr) (fun _ _ _ _ i _ => (64 - (intOf i).toNat))
  case atStart =>
    refine ⟨0, by omega, rfl, ⟨fun i p hp => ?_, fun i j _ p q hp _ k hk => ?_⟩, Below.refl _ _⟩
    · match i, hp with
      | 0, hp => cases hp; exact World.ownsRow_nil _ _ _ _
      | 1, hp => cases hp; exact World.ownsRow_nil _ _ _ _
      | 2, hp => cases hp; exact World.ownsRow_nil _ _ _ _
      | 3, hp => cases hp; exact World.ownsRow_nil _ _ _ _
      | _ + 4, hp => cases hp
    · match i, hp with
      | 0, hp => cases hp; cases hk
      | 1, hp => cases hp; cases hk
      | 2, hp => cases hp; cases hk
      | 3, hp => cases hp; cases hk
      | _ + 4, hp => cases hp
  case round =>
    obtain ⟨k, hk, rfl, hO, hbr⟩ := hrel
    by_cases hlt : k < 64
    · have hl0 := Nat.le_trans (filt_le (cDia s) k) hk
      have hl1 := Nat.le_trans (filt_le (cAnt s) k) hk
      have hl2 := Nat.le_trans (filt_le (cFil s) k) hk
      have hl3 := Nat.le_trans (filt_le (cRan s) k) hk
      obtain ⟨t0, ht0, g0⟩ : ∃ b, ((k : Int) % 8 - (k : Int) / 8 == (s : Int) % 8 - (s : Int) / 8) = b ∧ filt (cDia s) (k + 1) = filt (cDia s) k ++ (if b then [(k : Int)] else []) := ⟨_, rfl, filt_step _ _⟩
      obtain ⟨t1, ht1, g1⟩ : ∃ b, ((k : Int) % 8 + (k : Int) / 8 == (s : Int) % 8 + (s : Int) / 8) = b ∧ filt (cAnt s) (k + 1) = filt (cAnt s) k ++ (if b then [(k : Int)] else []) := ⟨_, rfl, filt_step _ _⟩
      obtain ⟨t2, ht2, g2⟩ : ∃ b, ((k : Int) % 8 == (s : Int) % 8) = b ∧ filt (cFil s) (k + 1) = filt (cFil s) k ++ (if b then [(k : Int)] else []) := ⟨_, rfl, filt_step _ _⟩
      obtain ⟨t3, ht3, g3⟩ : ∃ b, ((k : Int) / 8 == (s : Int) / 8) = b ∧ filt (cRan s) (k + 1) = filt (cRan s) k ++ (if b then [(k : Int)] else []) := ⟨_, rfl, filt_step _ _⟩
      cases t0 <;> cases t1 <;> cases t2 <;> cases t3
      all_goals
        go_wp2_with (first | (go_at_call 12; refine (po_file _ _ (by omega) (by omega)).mono ?_; rintro e w1 ⟨rfl, rfl⟩) | (go_at_call 13; refine (po_rank _ _ (by omega) (by omega)).mono ?_; rintro e w1 ⟨rfl, rfl⟩) | ((with_reducible refine at_append w.heap.size _ 0 _ hO rfl (Nat.le_trans hl0 (by decide)) hbr.size ?_ ?_ ?_); rfl; rfl; intro v5 w5 hO2 hB2; clear hO; have hO := hO2; clear hO2; have hbr2 := hbr.trans hB2; clear hbr hB2; have hbr := hbr2; clear hbr2; simp only [List.set] at hO) | ((with_reducible refine at_append w.heap.size _ 1 _ hO rfl (Nat.le_trans hl1 (by decide)) hbr.size ?_ ?_ ?_); rfl; rfl; intro v5 w5 hO2 hB2; clear hO; have hO := hO2; clear hO2; have hbr2 := hbr.trans hB2; clear hbr hB2; have hbr := hbr2; clear hbr2; simp only [List.set] at hO) | ((with_reducible refine at_append w.heap.size _ 2 _ hO rfl (Nat.le_trans hl2 (by decide)) hbr.size ?_ ?_ ?_); rfl; rfl; intro v5 w5 hO2 hB2; clear hO; have hO := hO2; clear hO2; have hbr2 := hbr.trans hB2; clear hbr hB2; have hbr := hbr2; clear hbr2; simp only [List.set] at hO) | ((with_reducible refine at_append w.heap.size _ 3 _ hO rfl (Nat.le_trans hl3 (by decide)) hbr.size ?_ ?_ ?_); rfl; rfl; intro v5 w5 hO2 hB2; clear hO; have hO := hO2; clear hO2; have hbr2 := hbr.trans hB2; clear hbr hB2; have hbr := hbr2; clear hbr2; simp only [List.set] at hO))
        go_roundw
        case rel =>
          simp only [Bool.false_eq_true, if_false, if_true, List.append_nil] at g0 g1 g2 g3
          refine ⟨k + 1, by omega, by go_num, ?_, hbr⟩
          rw [g0, g1, g2, g3]
          exact hO
        case measure => simp [intOf]; omega
    · obtain rfl : k = 64 := by omega
      have hc : ∀ c : Nat → Bool, (filt c 64).length ≤ 1000 := fun c => Nat.le_trans (filt_le c 64) (by decide)
      have b0 : (sqBit s == biOf [(s : Int)]) = true := by rw [← bm_one]; exact BEq.refl _
      have b1 : (tabB bbKingMovesL s == biReach 0#64 1 s) = true := by rw [← bm_king s hs64]; exact BEq.refl _
      have b2 : (tabB bbKnightMovesL s == biReach 0#64 5 s) = true := by rw [← bm_knight s hs64]; exact BEq.refl _
      have b3 : (tabB bbDiagonalsL s == biOf (filt (cDia s) 64)) = true := by rw [← bm_dia s hs64]; exact BEq.refl _
      have b4 : (tabB bbAntiDiagonalsL s == biOf (filt (cAnt s) 64)) = true := by rw [← bm_ant s hs64]; exact BEq.refl _
      have b5 : (tabB bbFilesL (s % 8) == biOf (filt (cFil s) 64)) = true := by rw [← bm_fil s hs64]; exact BEq.refl _
      have b6 : (tabB bbRanksL (s / 8) == biOf (filt (cRan s) 64)) = true := by rw [← bm_ran s hs64]; exact BEq.refl _
      have o0 := hO.each 0 _ rfl
      have o1 := hO.each 1 _ rfl
      have o2 := hO.each 2 _ rfl
      have o3 := hO.each 3 _ rfl
      clear hO
      go_wp2_with fail
      refine (mksq_impl s _ (by omega) (by omega)).mono ?_
      rintro e w1 ⟨rfl, q1⟩
      have r1 := bstep hbr q1 hbr.size
      go_wp2_with fail
      refine (mkki_impl s _ (by omega) (by omega) (gk.below r1)).mono ?_
      rintro e w2 ⟨rfl, q2⟩
      have r2 := bstep r1 q2 r1.size
      go_wp2_with fail
      refine (mkkn_impl s _ (by omega) (by omega) (gn.below r2)).mono ?_
      rintro e w3 ⟨rfl, q3⟩
      have r3 := bstep r2 q3 r2.size
      go_wp2_with fail
      refine (mkdi_impl s _ (by omega) (by omega) (gd.below r3)).mono ?_
      rintro e w4 ⟨rfl, q4⟩
      have r4 := bstep r3 q4 r3.size
      go_wp2_with fail
      refine (mkan_impl s _ (by omega) (by omega) (ga.below r4)).mono ?_
      rintro e w5 ⟨rfl, q5⟩
      have r5 := bstep r4 q5 r4.size
      go_wp2_with fail
      refine (mkfi_impl (s % 8) _ (by omega) (by omega) (gf.below r5)).mono ?_
      rintro e w6 ⟨rfl, q6⟩
      have r6 := bstep r5 q6 r5.size
      go_wp2_with fail
      refine (mkra_impl (s / 8) _ (by omega) (by omega) (gr.below r6)).mono ?_
      rintro e w7 ⟨rfl, q7⟩
      have r7 := bstep r6 q7 r6.size
      rw [show ((s : Int) % 8).toNat = s % 8 by omega, show ((s : Int) / 8).toNat = s / 8 by omega]
      simp only [Int.toNat_natCast]
      -- what was there when the loop ended stands
      have c1 : Below wr.heap.size wr w7 := bstep (bstep (bstep (bstep (bstep (bstep q1 q2 q1.size) q3 (Nat.le_trans q1.size q2.size)) q4 (Nat.le_trans q1.size (Nat.le_trans q2.size q3.size))) q5 (Nat.le_trans q1.size (Nat.le_trans q2.size (Nat.le_trans q3.size q4.size)))) q6 (Nat.le_trans q1.size (Nat.le_trans q2.size (Nat.le_trans q3.size (Nat.le_trans q4.size q5.size))))) q7 (Nat.le_trans q1.size (Nat.le_trans q2.size (Nat.le_trans q3.size (Nat.le_trans q4.size (Nat.le_trans q5.size q6.size)))))
      clear q1 q2 q3 q4 q5 q6 q7 r1 r2 r3 r4 r5 r6
      go_wp2_with fail
      refine (bi_of [(s : Int)] _ w7.heap.size _ (by simp; omega) (World.ownsRow_lit w7 (ints [(s : Int)]) 1 (Nat.le_refl _) (by decide) rfl) (by simp)).mono ?_
      rintro e w8 ⟨rfl, hw8⟩
      have c2 : Below wr.heap.size wr w8 := by rw [← hw8]; exact c1.alloc c1.size _
      have r8 : Below w.heap.size w w8 := by rw [← hw8]; exact r7.alloc r7.size _
      clear hw8
      go_wp2_with fail
      refine (bi_reach 0#64 1 s _ (by omega) (by omega) (by omega) (by omega)).mono ?_
      rintro e w9 ⟨rfl, q9⟩
      have r9 := bstep r8 q9 r8.size
      have c3 := bstep c2 q9 c2.size
      go_wp2_with fail
      refine (bi_reach 0#64 5 s _ (by omega) (by omega) (by omega) (by omega)).mono ?_
      rintro e w10 ⟨rfl, q10⟩
      have r10 := bstep r9 q10 r9.size
      have c4 := bstep c3 q10 c3.size
      go_wp2_with fail
      refine (bi_of _ _ w.heap.size _ (filt_range _ _ (by omega)) (own_below o0 c4) (hc _)).mono ?_
      rintro e w11 ⟨rfl, rfl⟩
      go_wp2_with fail
      refine (bi_of _ _ w.heap.size _ (filt_range _ _ (by omega)) (own_below o1 c4) (hc _)).mono ?_
      rintro e w11 ⟨rfl, rfl⟩
      go_wp2_with fail
      refine (bi_of _ _ w.heap.size _ (filt_range _ _ (by omega)) (own_below o2 c4) (hc _)).mono ?_
      rintro e w11 ⟨rfl, rfl⟩
      go_wp2_with fail
      refine (bi_of _ _ w.heap.size _ (filt_range _ _ (by omega)) (own_below o3 c4) (hc _)).mono ?_
      rintro e w11 ⟨rfl, rfl⟩
      go_wp2_with fail
      go_ret
      exact ⟨rfl, r10⟩
end Go.Proofs.YtgebocnomapchaaDoor
