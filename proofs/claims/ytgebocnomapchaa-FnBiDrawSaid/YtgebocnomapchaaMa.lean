/- The squares of a number: the map that the package makes of it, and the list that the thin package makes of the map. For every number. -/
import Derived.Test.YtgebocnomapchaaSq
import Derived.Test.YtgebocnomapchaaMp
import Derived.LoopTactic
import Derived.Deep.LoopGhost
import Derived.OwnWalk
namespace Go.Proofs.Ytgebocnomapchaa
open Go Go.RowKit
set_option maxHeartbeats 1000000
set_option linter.unusedSimpArgs false
set_option linter.unusedVariables false

theorem bit_occ (x : BitVec 64) (s : Nat) (h : s < 64) : (x &&& sqBit s != 0#64) = occ x s := by
  unfold occ sqBit
  have hm : (1#64 <<< (63 - s)) = BitVec.twoPow 64 (63 - s) := (BitVec.twoPow_eq 64 (63 - s)).symm
  rw [hm]
  cases hx : x.getLsbD (63 - s) with
  | true =>
    have : x &&& BitVec.twoPow 64 (63 - s) ≠ 0#64 := by
      intro e
      have := congrArg (fun z : BitVec 64 => z.getLsbD (63 - s)) e
      simp [BitVec.getLsbD_twoPow, hx] at this
      omega
    simpa using this
  | false =>
    have : x &&& BitVec.twoPow 64 (63 - s) = 0#64 := by
      apply BitVec.eq_of_getLsbD_eq
      intro i hi
      by_cases e : i = 63 - s
      · subst e; simp [hx]
      · simp [BitVec.getLsbD_twoPow]; intro _ _ e'; omega
    simp [this]

/-- The squares of x below k, as a map. -/
def maTo (x : BitVec 64) (k : Nat) : Int → Option Value := fun j => if 0 ≤ j ∧ j < k ∧ occ x j.toNat = true then some (.bool true) else none
/-- The squares of x below k. -/
def sqsTo (x : BitVec 64) (k : Nat) : List Nat := (List.range k).filter (occ x)
theorem sqsTo_le (x : BitVec 64) (k : Nat) : (sqsTo x k).length ≤ k := by
  have := List.length_filter_le (occ x) (List.range k)
  simpa [sqsTo] using this
theorem sqsTo_yes (x : BitVec 64) (k : Nat) (h : occ x k = true) : sqsTo x (k + 1) = sqsTo x k ++ [k] := by
  simp [sqsTo, List.range_succ, List.filter_append, h]
theorem sqsTo_no (x : BitVec 64) (k : Nat) (h : occ x k = false) : sqsTo x (k + 1) = sqsTo x k := by
  simp [sqsTo, List.range_succ, List.filter_append, h]
theorem maTo_none (x : BitVec 64) (k : Nat) : maTo x k k = none := by simp [maTo]
theorem maTo_yes (x : BitVec 64) (k : Nat) (h : occ x k = true) : mput (maTo x k) k (.bool true) = maTo x (k + 1) := by
  funext j
  unfold mput maTo
  by_cases e : j = k
  · subst e; simp [h]; omega
  · rw [if_neg e]
    by_cases c : 0 ≤ j ∧ j < k ∧ occ x j.toNat = true
    · rw [if_pos c, if_pos ⟨c.1, by omega, c.2.2⟩]
    · rw [if_neg c, if_neg (fun h => c ⟨h.1, by omega, h.2.2⟩)]
theorem maTo_no (x : BitVec 64) (k : Nat) (h : occ x k = false) : maTo x k = maTo x (k + 1) := by
  funext j
  unfold maTo
  by_cases e : j = k
  · subst e; simp [h]
  · by_cases c : 0 ≤ j ∧ j < k ∧ occ x j.toNat = true
    · rw [if_pos c, if_pos ⟨c.1, by omega, c.2.2⟩]
    · rw [if_neg c, if_neg (fun h => c ⟨h.1, by omega, h.2.2⟩)]

theorem ma_map (x : BitVec 64) (w : World) :
    Calls Try.prog 33 #[bbv x] w fun e w' => ∃ b, e = .returned (.map (some b)) ∧ w.heap.size ≤ b ∧ IMap w' b (maTo x 64) (sqsTo x 64).length ∧ Below w.heap.size w w' := by
  have hmm := run_makeMap' Try.prog
  go_enter Try.func33, Try.ntmps33
  go_wp2_with fail
  go_loopw [6] (fun i wr => ∃ k : Nat, k ≤ 64 ∧ i = .int .i64 (k : Int) ∧ IMap wr w.heap.size (maTo x k) (sqsTo x k).length ∧ Below w.heap.size w wr) (fun i _ => (64 - intOf i).toNat)
  case atStart => exact ⟨0, by omega, rfl, by rw [show maTo x 0 = fun _ => none from by funext j; simp [maTo]; omega]; exact imap_new w, (Below.refl _ _).alloc (Nat.le_refl _) _⟩
  case round =>
    obtain ⟨k, hk, rfl, hmap, hbel⟩ := hrel
    by_cases hlt : k < 64
    · obtain ⟨o, hrun, him⟩ := imap_update (P := Try.prog) (T := 56) (K := 48) (E := 4) (by kernel_rfl) (by kernel_rfl) hmap (k : Int) (.bool true)
      rw [maTo_none] at him
      go_wp2_with fail
      refine (sq_bit _ _ (by omega) (by omega)).mono ?_
      rintro e w1 ⟨rfl, rfl⟩
      have hb := bit_occ x k hlt
      simp only [Int.toNat_natCast]
      cases ho : occ x k with
      | true =>
        rw [ho] at hb
        rw [maTo_yes x k ho] at him
        go_wp2
        go_roundw
        case rel => exact ⟨k + 1, by omega, by go_num, by rw [sqsTo_yes x k ho]; simpa using him, below_setBlock hbel (Nat.le_refl _) o⟩
        case measure => simp [intOf]; omega
      | false =>
        rw [ho] at hb
        clear hrun him
        go_wp2
        go_roundw
        case rel => exact ⟨k + 1, by omega, by go_num, by rw [sqsTo_no x k ho, ← maTo_no x k ho]; exact hmap, hbel⟩
        case measure => simp [intOf]; omega
    · obtain rfl : k = 64 := by omega
      go_wp2
      go_ret
      exact ⟨_, rfl, Nat.le_refl _, hmap, hbel⟩

theorem own_mono {w : World} {base base' : Nat} {e : TypeId} {size : Nat} {v : Value} {n : Nat} {xs : List Value} (h : w.ownsRow base e size v n xs) (hb : base' ≤ base) : w.ownsRow base' e size v n xs := by
  obtain ⟨h1, h2⟩ := h
  refine ⟨h1, ?_⟩
  rcases h2 with h2 | ⟨g, cap, cur, a, b, c⟩
  · exact Or.inl h2
  · exact Or.inr ⟨g, cap, cur, a, Nat.le_trans hb b, c⟩
theorem ma_info : (Try.prog.info? 3).map (fun i => (i.zero, i.size, i.bytes)) = some (some (.int .i64 0), 1, 8) := by kernel_rfl

/-- The list of the squares of a number. -/
theorem ma_list (x : BitVec 64) (w : World) :
    Calls Try.prog 15 #[bbv x] w fun e w' => ∃ v, e = .returned v ∧ w'.ownsRow w.heap.size 3 1 v (sqsTo x 64).length ((sqsTo x 64).map fun s : Nat => Value.int .i64 (s : Int)) ∧ Below w.heap.size w w' := by
  obtain ⟨i0, hi, hz0, hz1, hz2⟩ := info_parts ma_info
  go_enter Try.func15, Try.ntmps15
  go_wp2_with (first | (go_at_call 33; refine (ma_map x _).mono ?_; rintro e w1 ⟨b, rfl, hbw, hmap, hbel⟩) | (go_at_call 26; go_in))
  go_loopw [4, 5] (fun l i wr => ∃ k : Nat, k ≤ 64 ∧ i = .int .i64 (k : Int) ∧ IMap wr b (maTo x 64) (sqsTo x 64).length ∧ wr.ownsRow w1.heap.size 3 1 l (sqsTo x k).length ((sqsTo x k).map fun s : Nat => Value.int .i64 (s : Int)) ∧ Below w1.heap.size w1 wr) (fun _ i _ => (64 - intOf i).toNat)
  case atStart => exact ⟨0, by omega, rfl, hmap, World.ownsRow_nil _ _ _ _, Below.refl _ _⟩
  case round =>
    obtain ⟨k, hk, rfl, hmr, hown, hbr⟩ := hrel
    by_cases hlt : k < 64
    · have hlk := imap_lookup (P := Try.prog) (T := 56) (K := 48) (E := 4) (by kernel_rfl) (by kernel_rfl) (z := .bool false) (w := wr) (by kernel_rfl) hmr (k : Int) false
      have hle := sqsTo_le x k
      cases ho : occ x k with
      | true =>
        rw [show maTo x 64 k = some (.bool true) from by simp [maTo, ho]; omega] at hlk
        simp at hlk
        go_wp2_with (at_builtin; refine wpList_append_own _ rfl _ _ 35 rfl w1.heap.size 3 i0 (.int .i64 0) 1 8 Try.underlying35 hi hz0 hz1 hz2 rfl (by decide) _ _ _ rfl (hown.alloc _) ⟨wr.heap.size, 0, none⟩ 1 1 [.int .i64 (k : Int)] rfl rfl ?c1 ?c2 ?c3 ?c4 ?c5 ?_)
        case c1 =>
          intro j u hj
          match j, hj with
          | 0, hj => simp at hj; subst hj; simp [Addr.add]
        case c2 => intro u hu; simp at hu; subst hu; rfl
        case c3 => unfold maxLen; omega
        case c4 => omega
        case c5 => have := hbr.size; simp; omega
        · intro v' w2 hown' hgrow _
          have hge := own_ge hown
          have hbl : b < w1.heap.size := hmap.lt
          have hm2 : IMap w2 b (maTo x 64) (sqsTo x 64).length := hmr.same ((hgrow.block b (by have := hmr.lt; simp; omega) (fun e => by have := hge b e.symm; omega)).trans (Below.heap_alloc _ _ _ hmr.lt))
          have hb2 : Below w1.heap.size w1 w2 := (hbr.alloc hbr.size _).grown hgrow (by have := hbr.size; simp; omega) hge
          clear hlk hown hmr hbr hgrow hge
          go_wp2
          go_roundw
          case rel =>
            have R : ∃ k' : Nat, k' ≤ 64 ∧ Value.int .i64 ((k : Int) + 1) = .int .i64 (k' : Int) ∧ IMap w2 b (maTo x 64) (sqsTo x 64).length ∧ w2.ownsRow w1.heap.size 3 1 v' (sqsTo x k').length ((sqsTo x k').map fun s : Nat => Value.int .i64 (s : Int)) ∧ Below w1.heap.size w1 w2 :=
              ⟨k + 1, by omega, by go_num, hm2, by rw [sqsTo_yes x k ho]; simpa using hown', hb2⟩
            first | exact R | ((repeat apply Exists.intro); exact ⟨R, rfl⟩)
          case measure => simp [intOf]; omega
      | false =>
        rw [show maTo x 64 k = none from by simp [maTo, ho]] at hlk
        simp at hlk
        go_wp2
        go_roundw
        case rel => exact ⟨k + 1, by omega, by go_num, hmr, by rw [sqsTo_no x k ho]; exact hown, hbr⟩
        case measure => simp [intOf]; omega
    · obtain rfl : k = 64 := by omega
      go_wp2
      go_ret
      have hsz := hbel.size
      exact ⟨_, rfl, own_mono hown hsz, hbel.trans (hbr.mono hsz)⟩
end Go.Proofs.Ytgebocnomapchaa
